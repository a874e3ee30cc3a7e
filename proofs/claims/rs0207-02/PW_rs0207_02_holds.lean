import PyProof.Rows.All
import Wide.All
import OpenK.AllK
import Wide.FinOn
import KE.KNestM
import Lean
import PySem.Challenge.RW_rs0207_02
set_option maxRecDepth 100000
set_option Elab.async false
set_option genSizeOf false
set_option genSizeOfSpec false
set_option genInjectivity false
set_option compiler.extract_closed false
set_option bootstrap.genMatcherCode false
set_option hygiene false
set_option linter.unusedVariables false
set_option maxHeartbeats 8000000
namespace Pj
open PySem PySem.Calls PyProof.Rows PySem.W
section
set_option hygiene false in
local macro_rules | `(tactic| o_head $H) => `(tactic| exact h $H)
theorem kHead (h : Hook → PySem.Challenge.rw_rs0207_02.row.Holds) : PySem.Challenge.rw_rs0207_02.row.Holds := by km_head
end
section
noncomputable abbrev pw := PySem.Challenge.pw_rs0207_02
noncomputable abbrev KB : Params → Frag := kHead.heap_1
noncomputable def kAs : List Addr := [2, 3, 15, 17, 18, 20, 21, 32, 34, 35, 37, 38, 39, 41, 42, 44, 45, 46, 48, 49, 51, 52, 53, 55, 56, 58, 59, 60, 62, 63, 65, 66, 67, 69, 70, 72, 73, 74, 76, 77, 79, 80, 81, 82, 83, 84, 85, 95, 97, 98, 100, 101, 102, 104, 105, 107, 108, 109, 111, 112, 114, 115, 116, 118, 119, 121, 122, 123, 124, 125, 126, 127, 130, 133, 135, 136, 138, 139, 140, 142, 143, 145, 146, 147, 149, 150, 152, 153, 154, 156, 157, 159, 160, 161, 164, 165, 166, 168, 169, 171, 172, 173, 175, 176, 178, 179, 180, 182, 183, 185, 186, 187, 190, 191, 192, 195, 196, 197, 199, 200, 202, 203, 204, 206, 207, 209, 210, 211, 214, 215, 216, 219, 220, 221, 224, 225, 226, 229, 230]
theorem kAs_eq (P : Params) : kAs = (KB P).map (·.1) := by kernel_rfl
noncomputable def hk : Hook := kmHook KB kAs kAs_eq [155]
end
section
noncomputable def qv : Program := view pw [73]
noncomputable def lv : List Str := pw.boundNames.filter fun x => !(x == Str.ofString "law")
noncomputable abbrev xv (s : Shared) : Bool := xlAt qv [] s && recOk (RowW.records PySem.Challenge.rw_rs0207_02.row.toRowW) s
noncomputable def armP (w : World) : Prop := (openEnds treeTable PySem.Challenge.rw_rs0207_02.row.prog w 5648).map (fun s => (openSeen qv lv (importedModules PySem.Challenge.rw_rs0207_02.row.prog.main.body) xv true s, hk.obs s)) = some (openGood qv lv, hk.val w)
theorem armF (w : World) : armP (w.withFollow "special-get-raises" false) := by
  unfold armP openEnds topFrom fencedOpening
  rw [PySem.W.Fast.te14082659384304107361, PySem.W.Fast.te14364793385576792824, PySem.W.Fast.te4187177175401517315]
  kernel_rfl
theorem armT (w : World) : armP (w.withFollow "special-get-raises" true) := by
  unfold armP openEnds topFrom fencedOpening
  rw [PySem.W.Fast.te14082659384304107361, PySem.W.Fast.te14364793385576792824, PySem.W.Fast.te4187177175401517315]
  kernel_rfl
theorem left0 : LeftO PySem.Challenge.rw_rs0207_02.row.prog qv lv xv hk.obs hk.val 5648 := fun w => byRow2 "special-get-raises" (P := armP) armF armT w
end
section
section
variable {a b c d n m k p q r : Nat}
theorem ar1 (h : n ≤ m) (e : Nat.ble m k = true) : n ≤ k := Nat.le_trans h (Nat.le_of_ble_eq_true e)
theorem ar3 (h : n ≤ m) (e : Nat.blt m k = true) : n < k := Nat.lt_of_le_of_lt h (Nat.le_of_ble_eq_true e)
theorem ar4 (h : n < m) (e : Nat.ble m (k + 1) = true) : n ≤ k := Nat.le_of_lt_succ (Nat.lt_of_lt_of_le h (Nat.le_of_ble_eq_true e))
theorem ar5 (h : n = m) (e : Nat.ble m k = true) : n ≤ k := h ▸ Nat.le_of_ble_eq_true e
theorem ar7 (h : m < d) (e : Nat.ble n m = true) : n < d := Nat.lt_of_le_of_lt (Nat.le_of_ble_eq_true e) h
theorem ar11 (h : m < d) (e : Nat.ble (n + 1) m = true) : n < d - 1 := Nat.lt_of_lt_of_le (Nat.le_of_ble_eq_true e) (Nat.le_sub_one_of_lt h)
theorem ar12 (h : m < d) (e : Nat.ble (n + 2) m = true) : n < d - 1 - 1 := ar11 (ar11 h (m := m) (n := m - 1) (by cases m; cases e; exact Nat.ble_self_eq_true _)) (by cases m; cases e; exact e)
theorem ar13 (h : n = m) (e : Nat.ble k m = true) : k ≤ n := h ▸ Nat.le_of_ble_eq_true e
theorem ar15 (h : a + b ≤ n) (h2 : n ≤ m) (e : Nat.ble m k = true) : a ≤ k := Nat.le_trans (Nat.le_add_right a b) (Nat.le_trans h (ar1 h2 e))
theorem ar16 (h : a + b ≤ n) (h2 : n ≤ m) (e : Nat.ble m k = true) : b ≤ k := Nat.le_trans (Nat.le_add_left b a) (Nat.le_trans h (ar1 h2 e))
theorem ar17 (h : a + (b + c) ≤ n) (h2 : n ≤ m) (e : Nat.ble m k = true) : b ≤ k := Nat.le_trans (Nat.le_trans (Nat.le_add_right b c) (Nat.le_add_left _ a)) (Nat.le_trans h (ar1 h2 e))
theorem ar21 (h : n + 1 ≤ m) : n ≤ m := Nat.le_of_succ_le h
theorem ar22 (h : n + k ≤ m) : n ≤ m := Nat.le_trans (Nat.le_add_right n k) h
theorem ar24 (h : n < m) : n ≤ m - 1 := Nat.le_sub_one_of_lt h
theorem ar25d : ∀ n, n < 3 → n = 0 ∨ n = 1 ∨ n = 2 := by decide
theorem ar25 (h : n < 3) : n = 0 ∨ n = 1 ∨ n = 2 := ar25d n h
theorem ar26d : ∀ n, n < 5 → n = 0 ∨ n = 1 ∨ n = 2 ∨ n = 3 ∨ n = 4 := by decide
theorem ar26 (h : n ≤ 4) : n = 0 ∨ n = 1 ∨ n = 2 ∨ n = 3 ∨ n = 4 := ar26d n (Nat.lt_succ_of_le h)
theorem ar27 (h : 2 ≤ n) (h2 : n ≤ 4) : n = 2 ∨ n = 3 ∨ n = 4 := (ar26 h2).elim (fun e => by subst e; cases h) fun e => e.elim (fun e => by subst e; cases h with | step h => cases h) id
theorem ar32 (h : 0 < n ∧ n < m) : n ≠ 0 := Nat.ne_of_gt h.1
theorem ar33 (h : a + (b + 1) ≤ n) : a + 1 + b ≤ n := by rw [Nat.add_right_comm]; exact h
theorem ar34 (h : a + (b + 1 + 1) ≤ n) : a + 1 + b ≤ n := Nat.le_of_succ_le (by rw [Nat.add_right_comm]; exact h)
theorem ar37 : n + 1 - n = 1 := Nat.add_sub_cancel_left n 1
theorem ar38 : n + 2 - n = 2 := Nat.add_sub_cancel_left n 2
theorem ar39 (h : n = m) (h2 : k = 2) : k + n = m + 2 := by rw [h, h2]; exact Nat.add_comm 2 m
theorem ar40 (h : n ≠ m) (h2 : m ≤ n) : m < n := Nat.lt_of_le_of_ne h2 (Ne.symm h)
theorem ar41 (h : ¬n ≤ m) : m < n := Nat.lt_of_not_le h
theorem ar42 (h : ¬n < m) : m ≤ n := Nat.le_of_not_lt h
theorem ar43 (h : n < m) (h2 : m ≤ k) : n < k := Nat.lt_of_lt_of_le h h2
theorem ar44 (h : n ≤ m) (h2 : m ≤ k) : n ≤ k := Nat.le_trans h h2
theorem ar45 (h : n < m) (h2 : m < k) : n < k := Nat.lt_trans h h2
theorem ar46 (h : n < m) (h2 : k ≤ n) : k ≤ m := Nat.le_trans h2 (Nat.le_of_lt h)
theorem ar47 (h : n ≤ m) : n + 1 ≤ m + 1 := Nat.succ_le_succ h
theorem ar48 (h : n ≤ m + 1) : n ≤ m + 1 + 1 := Nat.le_succ_of_le h
theorem ar49 (h : a + b + c ≤ m) (e : Nat.ble m k = true) : a ≤ k := ar1 (Nat.le_trans (Nat.le_add_right a b) (Nat.le_trans (Nat.le_add_right _ c) h)) e
theorem ar50 (h : a + b + c ≤ m) (e : Nat.ble m k = true) : b ≤ k := ar1 (Nat.le_trans (Nat.le_add_left b a) (Nat.le_trans (Nat.le_add_right _ c) h)) e
theorem ar52 (h : a + b + c ≤ m) (e : Nat.ble (3 * m) k = true) : b + 3 * c + a ≤ k := ar1 (by omega : b + 3 * c + a ≤ 3 * m) e
theorem ar53 (h : a + b + c ≤ m) (e : Nat.ble (3 * m) k = true) : b + c * 3 + a ≤ k := ar1 (by omega : b + c * 3 + a ≤ 3 * m) e
theorem ar54 (h : a + b + c ≤ m) (e : Nat.ble (3 * m) k = true) : b + c * 3 ≤ k := ar1 (by omega : b + c * 3 ≤ 3 * m) e
theorem ar58 (h : n + k < m + k) : n < m := Nat.lt_of_add_lt_add_right h
theorem ar60 (h : n < m - p) : p + n < m := by have := Nat.add_lt_of_lt_sub h; rw [Nat.add_comm]; exact this
theorem ar61 (h : n = m) (h2 : m ≤ p) (e : Nat.ble p k = true) : n ≤ k := h ▸ ar1 h2 e
theorem ar66 (h : 2 + n = m + 2) : n = m := Nat.add_right_cancel ((Nat.add_comm n 2).trans h)
theorem ar68 (h : 0 < n ∧ n < m) : n < m := h.2
theorem ar72 (h : n ≤ m) (e : Nat.blt m n = true) : False := Nat.not_lt_of_le h (Nat.le_of_ble_eq_true e)
theorem ar77 (h : n = m + 2) (h2 : p + 1 = n) : p = m + 1 := Nat.succ.inj (h2.trans h)
theorem ar79 (h : n ≤ p) (h2 : m ≤ q) (e : Nat.ble (p + q + 1) k = true) : n + 1 + m ≤ k := ar1 (by omega : n + 1 + m ≤ p + q + 1) e
theorem ar80 (h : n ≤ p) (h2 : m ≤ q) (e : Nat.ble (p + q + 1) k = true) : n + (m + 1) ≤ k := ar1 (by omega : n + (m + 1) ≤ p + q + 1) e
theorem ar85 (h : a + b ≤ m) (e : Nat.ble m k = true) : a ≤ k := ar1 (Nat.le_trans (Nat.le_add_right a b) h) e
theorem as1 (h : n ≤ m) : n ≤ m + 1 := Nat.le_succ_of_le h
theorem as4 (h : n ≤ m) (h2 : m ≤ n) : n = m := Nat.le_antisymm h h2
theorem as8 (h : n = m) : m ≤ n := Nat.le_of_eq h.symm
theorem as10 (h : 0 < d) (h2 : a + k * d ≤ m) (e : Nat.ble c k = true) : a + c + k * (d - 1) ≤ m := by
  obtain ⟨d, rfl⟩ := Nat.exists_eq_succ_of_ne_zero (Nat.ne_of_gt h)
  refine Nat.le_trans ?_ h2
  show a + c + k * d ≤ a + k * (d + 1)
  rw [Nat.mul_succ, Nat.add_assoc, Nat.add_comm c]
  exact Nat.add_le_add_left (Nat.add_le_add_left (Nat.le_of_ble_eq_true e) _) a
theorem as11 (h : 0 < d) (h2 : a + k * d ≤ m) : a + k * (d - 1) ≤ m := Nat.le_trans (Nat.add_le_add_left (Nat.mul_le_mul_left k (Nat.sub_le d 1)) a) h2
theorem as12 (h : 1 < d) (h2 : a + k * d ≤ m) (e : Nat.ble c k = true) : a + c + k * (d - 1) ≤ m := as10 (Nat.lt_trans Nat.zero_lt_one h) h2 e
theorem as14 (h : a + b ≤ m) (e : Nat.blt m k = true) : a < k := Nat.lt_of_le_of_lt (Nat.le_trans (Nat.le_add_right a b) h) (Nat.le_of_ble_eq_true e)
theorem as15 (h : n = m) (h2 : m < p) (e : Nat.ble p (k + 1) = true) : n ≤ k := h ▸ ar4 h2 e
theorem as18 (h : k < m) (h2 : n = m) : k < n := h2 ▸ h
theorem as19 (h : k < m) (h2 : m = n) : k < n := h2 ▸ h
theorem as20 (h : n = m) (h2 : k = m) : k = n := h2.trans h.symm
theorem as21 (h : n = m + 1) (e : m ≤ p) (q : Nat.blt p k = true) : n ≤ k := h ▸ Nat.le_trans (Nat.succ_le_succ e) (Nat.le_of_ble_eq_true q)
theorem as24 (h : n ≤ m) (h2 : a ≤ b) : n + a ≤ m + b := Nat.add_le_add h h2
theorem as25 (h : n < m) (h2 : a ≤ b) : n + a < m + b := Nat.add_lt_add_of_lt_of_le h h2
theorem as26 (h : n ≤ m) (h2 : a < b) : n + a < m + b := Nat.add_lt_add_of_le_of_lt h h2
theorem as28 (h : n ≤ m) (e : Nat.ble m k = true) : n - 1 ≤ k := Nat.le_trans (Nat.sub_le n 1) (ar1 h e)
theorem as29 (h : n ≤ m) (e : Nat.ble m k = true) : n - 2 ≤ k := Nat.le_trans (Nat.sub_le n 2) (ar1 h e)
theorem as33 (h : n + 1 ≤ m) : 1 + n ≤ m := Nat.add_comm n 1 ▸ h
theorem as34 (h : n + 1 + 1 ≤ m) : 1 + n ≤ m := Nat.le_of_succ_le (Nat.add_comm n 1 ▸ h)
theorem as35 (h : n ≤ 2) (h2 : m = 2) (e : Nat.ble 4 k = true) : m + n ≤ k := h2 ▸ Nat.le_trans (Nat.add_le_add_left h 2) (Nat.le_of_ble_eq_true e)
end
section
variable {a b c d n m k p : Nat} {i j : Int}
theorem ai1 : (0 : Int) ≤ (n : Int) := Int.natCast_nonneg n
theorem ai2 (h : (n : Int) ≤ (m : Int)) : n ≤ m := Int.ofNat_le.mp h
theorem ai4 (h : (n : Int) = (m : Int)) : n = m := Int.ofNat_inj.mp h
theorem ai5 (h : n ≤ m) : (n : Int) ≤ (m : Int) := Int.ofNat_le.mpr h
theorem ai9 (h : ¬n = m) : ¬(n : Int) = (m : Int) := fun q => h (Int.ofNat_inj.mp q)
theorem ai11 (h : (n : Int) ≤ (m : Int)) : (m : Int) - (n : Int) + (k : Int) = ((m - n + k : Nat) : Int) := by rw [Int.natCast_add, Int.ofNat_sub (Int.ofNat_le.mp h)]
theorem ai12 (h : n ≤ m) : (m : Int) - (n : Int) + (k : Int) = ((m - n + k : Nat) : Int) := ai11 (Int.ofNat_le.mpr h)
theorem ai15 (h : 0 < n ∧ n < 256) : ¬(256 : Int) ≤ (n : Int) := fun q => Nat.not_le_of_lt h.2 (Int.ofNat_le.mp q)
theorem ai20 (h : ¬(n : Int) = (m : Int)) : n ≠ m := fun q => h (q ▸ rfl)
theorem ai23 : ((n : Int) + 1 - 1).toNat = n := by rw [Int.add_sub_cancel]; rfl
end
section
variable {a b c d n m k p : Nat} {i j : Int}
theorem at7 (h : (n : Int) ≤ m) : (m : Int) - n + 1 = ((m - n + 1 : Nat) : Int) := ai11 (k := 1) h
theorem at8 (h : (n : Int) ≤ m) : ((m : Int) - n + 1).toNat = m - n + 1 := by rw [at7 h]; rfl
theorem at9 (h : (n : Int) ≤ m) : (0 : Int) ≤ (m : Int) - n + 1 := by rw [at7 h]; exact Int.natCast_nonneg _
theorem at10 (h : i < i) : False := Int.lt_irrefl _ h
end
theorem cmx (a b : Nat) : max (a : Int) b = ((max a b : Nat) : Int) := (Nat.le_total a b).elim (fun h => by rw [Nat.max_eq_right h, Int.max_eq_right (Int.ofNat_le.mpr h)]) (fun h => by rw [Nat.max_eq_left h, Int.max_eq_left (Int.ofNat_le.mpr h)])
theorem cmn (a b : Nat) : min (a : Int) b = ((min a b : Nat) : Int) := (Nat.le_total a b).elim (fun h => by rw [Nat.min_eq_left h, Int.min_eq_left (Int.ofNat_le.mpr h)]) (fun h => by rw [Nat.min_eq_right h, Int.min_eq_right (Int.ofNat_le.mpr h)])
theorem cmx1 (a b : Nat) : max ((a : Int) - 1) b = ((max (a - 1) b : Nat) : Int) := by
  cases a with
  | zero => exact (Int.max_eq_right (Int.le_trans (by decide) (Int.natCast_nonneg b))).trans (congrArg _ (Nat.max_eq_right (Nat.zero_le b)).symm)
  | succ a => rw [Nat.succ_sub_one, ← cmx]; exact congrArg (max · (b : Int)) (Int.add_sub_cancel (a : Int) 1)
theorem cmn0 (a b : Nat) : (max 0 (min (a : Int) b)).toNat = min a b := by rw [cmn, Int.max_eq_right (Int.natCast_nonneg _), Int.toNat_natCast]
theorem i40 {x : Int} (h : x.natAbs ≤ 2 ^ 40) : -1099511627776 ≤ x ∧ x ≤ 1099511627776 := by omega
end
section
theorem via {G : Prop} (h : ∀ Z : Prop, (G → Z) → Z) : G := h G id
noncomputable abbrev sOf (l : List Nat) : Str := ⟨l.toArray⟩
structure FnDesc where
  name : Str
  qual : Str
  params : Arguments
  body : List Stmt
  scope : Scope
inductive AV where
  | none
  | bool (b : Bool)
  | int (i : Int)
  | str (l : List Nat)
  | tup (xs : List AV)
  | list (xs : List AV)
  | dictS (es : List (List Nat × AV))
  | dictI (es : List (Int × AV))
  | inst (c : Addr) (as : List (String × AV))
  | ref (i : Nat)
  | val (v : Value)
  | meth (f : Addr) (self : AV)
  | stream (r : FnDesc) (left : AV)
inductive AO where
  | list (xs : List AV)
  | dictS (es : List (List Nat × AV))
  | dictI (es : List (Int × AV))
  | inst (c : Addr) (d : Nat)
  | ns (as : List (String × AV))
  | citer (f : AV) (sent : AV)
  | cdone
  | tab0 (P : Addr)
  | opaq
structure Base where
  prog : Program
  w : World
  K : Frag
  h0 : Heap
  mg : Str → Option Value
  mb : Str → Option Value
  os : OsState
structure Base.Ok (B : Base) : Prop where
  inK : B.K.In B.h0
  g : B.h0.Ns mainGlobals B.mg
  b : B.h0.Ns builtinsNs B.mb
  nolimit : B.h0.NoLimit
  sysm : ∃ a o, sysModules ≤ a ∧ B.h0.get? a = some o
  bimod : ∃ bm ob, B.mg "__builtins__" = some (.ref bm) ∧ bm ≠ builtinsNs ∧ bm ≠ mainGlobals ∧ B.h0.get? bm = some ob ∧ ob.cls = .type "module" ∧ ob.dict = some builtinsNs ∧ ob.data = .plain
  builtins : ∀ x : Str, x ≠ "__name__" → B.mb x = bootBuiltins x
noncomputable def KeysAs : List (String × AV) → List DictEntry → Prop
  | [], [] => True
  | a :: as, e :: es => (∃ t, e.key = .str (Str.ofString a.1) t) ∧ KeysAs as es
  | _, _ => False
noncomputable abbrev fobjOf (fd : FuncData) (d : Option Addr) : Obj := { cls := .type "function", dict := d, data := .func fd }
noncomputable def isIt (o : Obj) : Bool := match o.data with
  | .fields _ => (match o.cls with
    | .type n => (["list_iterator", "tuple_iterator", "str_iterator", "str_ascii_iterator", "range_iterator", "longrange_iterator", "dict_keyiterator", "enumerate", "zip"] : List String).contains n
    | _ => false)
  | _ => false
noncomputable def AV.kids : AV → List AV
  | .tup xs => xs
  | .list xs => xs
  | .dictS es => es.map (·.2)
  | .dictI es => es.map (·.2)
  | .inst _ as => as.map (·.2)
  | .meth _ x => [x]
  | .stream _ x => [x]
  | _ => []
inductive At (B : Base) : AV → Value → Prop
  | none : At B .none .none
  | bool (b) : At B (.bool b) (.bool b)
  | int (i t) : At B (.int i) (.int i t)
  | str (l t) : At B (.str l) (.str (sOf l) t)
  | val {v} (hv : ∀ a, v = .ref a → B.h0.get? a ≠ Option.none) : At B (.val v) v
inductive SF (r : FnDesc) (a : Addr) (L : List (Addr × Obj)) (lv : Value) : Prop
  | mk (dx : Addr) (fd : FuncData) (m : Str → Option Value) (f c : Addr) (doc pm : Value) (cd : Addr) (ct : Value) (hes : m (Str.ofString "read") = some (.ref f)) (hc : ∃ o, (c, o) ∈ L)
    (all : ∀ h : Heap, (∀ p ∈ L, h.get? p.1 = some p.2) → h.get? a = some (fobjOf fd (some dx)) ∧ h.Ns dx m ∧ h.get? f = some (fobjOf (fnX r.name r.qual r.params r.body r.scope [("left", c)] .none .none doc pm none (.ref cd) ct) none) ∧ h.CodeRec (.ref cd) r.qual ∧ h.IsCell c (some lv)) : SF r a L lv
inductive Sh (B : Base) : AV → Value → List (Addr × Obj) → List Value → Prop
  | tup {a xs vs o} (f : ∀ h : Heap, h.get? a = some o → h.IsTuple a vs) : Sh B (.tup xs) (.ref a) [(a, o)] vs.toList
  | list {a xs vs o} (f : ∀ h : Heap, h.get? a = some o → h.PlainList a vs) : Sh B (.list xs) (.ref a) [(a, o)] vs.toList
  | dictS {a es kvs o} (f : ∀ h : Heap, h.get? a = some o → h.DictOf (PySem.strKind B.prog B.w) a kvs) (hs : (a == sysModules) = false) (hk : kvs.map (·.1) = es.map fun e => sOf e.1) : Sh B (.dictS es) (.ref a) [(a, o)] (kvs.map (·.2))
  | dictI {a es kvs o} (f : ∀ h : Heap, h.get? a = some o → h.DictOf (intKind B.prog B.w) a kvs) (hs : (a == sysModules) = false) (hk : kvs.map (·.1) = es.map (·.1)) : Sh B (.dictI es) (.ref a) [(a, o)] (kvs.map (·.2))
  | inst {a dx c as es n} (hk : KeysAs as es) : Sh B (.inst c as) (.ref a) [(a, instObj c dx), (dx, dictOf es n)] (es.map (·.val))
  | meth {a f self sv} : Sh B (.meth f self) (.ref a) [(a, methodObj (.ref f) sv)] [sv]
  | stream {a r left L lv} (sf : SF r a L lv) : Sh B (.stream r left) (.ref a) L [lv]
noncomputable def Own (ρ φ : List Addr) (h : Heap) (L : List (Addr × Obj)) : Prop := ∀ p ∈ L, h.get? p.1 = some p.2 ∧ (p.1 ∉ ρ ∧ p.1 ∉ φ) ∧ isIt p.2 = false
mutual
inductive RV (B : Base) (ρ φ : List Addr) (h : Heap) : AV → Value → Prop
  | atom {v c} (e : At B v c) : RV B ρ φ h v c
  | ref {i a} (ha : ρ[i]? = some a) : RV B ρ φ h (.ref i) (.ref a)
  | obj {v c L vs} (s : Sh B v c L vs) (k : Own ρ φ h L) (hx : RVs B ρ φ h v.kids vs) : RV B ρ φ h v c
inductive RVs (B : Base) (ρ φ : List Addr) (h : Heap) : List AV → List Value → Prop
  | nil : RVs B ρ φ h [] []
  | cons {x v xs vs} (hx : RV B ρ φ h x v) (hr : RVs B ρ φ h xs vs) : RVs B ρ φ h (x :: xs) (v :: vs)
end
theorem isIt_seq {o : Obj} {xs : Array Value} {n : Nat} (e : o.data = .seq xs n) : isIt o = false := by unfold isIt; rw [e]
theorem isIt_dict {o : Obj} {xs : Array DictEntry} {n : Nat} (e : o.data = .dict xs n) : isIt o = false := by unfold isIt; rw [e]
theorem isIt_cell {o : Obj} {v : Option Value} (e : o.data = .cell v) : isIt o = false := by unfold isIt; rw [e]
section
variable {B : Base} {ρ φ : List Addr} {h : Heap}
theorem Own.nil : Own ρ φ h [] := fun _ q => nomatch q
theorem Own.cons {a : Addr} {o : Obj} {L : List (Addr × Obj)} (e : h.get? a = some o) (n : a ∉ ρ ∧ a ∉ φ) (z : isIt o = false) (k : Own ρ φ h L) : Own ρ φ h ((a, o) :: L) := List.forall_mem_cons.mpr ⟨⟨e, n, z⟩, k⟩
theorem Own.one {a : Addr} {o : Obj} (e : h.get? a = some o) (n : a ∉ ρ ∧ a ∉ φ) (z : isIt o = false) : Own ρ φ h [(a, o)] := .cons e n z .nil
theorem Own.hd {p : Addr × Obj} {L : List (Addr × Obj)} (k : Own ρ φ h (p :: L)) : h.get? p.1 = some p.2 ∧ (p.1 ∉ ρ ∧ p.1 ∉ φ) ∧ isIt p.2 = false := k _ List.mem_cons_self
theorem Own.tl {p : Addr × Obj} {L : List (Addr × Obj)} (k : Own ρ φ h (p :: L)) : Own ρ φ h L := fun q hq => k q (List.mem_cons_of_mem _ hq)
theorem RV.none : RV B ρ φ h .none .none := .atom .none
theorem RV.bool (b : Bool) : RV B ρ φ h (.bool b) (.bool b) := .atom (.bool b)
theorem RV.int (i : Int) (t) : RV B ρ φ h (.int i) (.int i t) := .atom (.int i t)
theorem RV.str (l : List Nat) (t) : RV B ρ φ h (.str l) (.str (sOf l) t) := .atom (.str l t)
theorem RV.val {v : Value} (hv : ∀ a, v = .ref a → B.h0.get? a ≠ Option.none) : RV B ρ φ h (.val v) v := .atom (.val hv)
theorem RV.tup {a : Addr} {xs : List AV} {vs : Array Value} (ho : h.IsTuple a vs) (hn : a ∉ ρ ∧ a ∉ φ) (hx : RVs B ρ φ h xs vs.toList) : RV B ρ φ h (.tup xs) (.ref a) :=
  ho.elim fun o zz1 => zz1.elim fun e zz2 => zz2.elim fun c zz3 => zz3.elim fun n r => .obj (.tup fun _ e => ⟨o, e, c, n, r⟩) (.one e hn (isIt_seq r)) hx
theorem RV.list {a : Addr} {xs : List AV} {vs : Array Value} (ho : h.PlainList a vs) (hn : a ∉ ρ ∧ a ∉ φ) (hx : RVs B ρ φ h xs vs.toList) : RV B ρ φ h (.list xs) (.ref a) :=
  ho.elim fun n e => .obj (.list fun _ e => ⟨n, e⟩) (.one e hn rfl) hx
theorem dictAt {K : Type} [DecidableEq K] {k : KeyKind B.prog B.w K} {a : Addr} {kvs : List (K × Value)} (ho : h.DictOf k a kvs) : ∃ o, h.get? a = some o ∧ isIt o = false ∧ ∀ h' : Heap, h'.get? a = some o → h'.DictOf k a kvs :=
  ho.elim fun o zz1 => zz1.elim fun es zz2 => zz2.elim fun ep zz3 => zz3.elim fun e zz4 => zz4.elim fun x zz5 => zz5.elim fun r y => ⟨o, e, isIt_dict r, fun _ e => ⟨o, es, ep, e, x, r, y⟩⟩
theorem RV.dictS {a : Addr} {es : List (List Nat × AV)} {kvs : List (Str × Value)} (ho : h.DictOf (PySem.strKind B.prog B.w) a kvs) (hs : (a == sysModules) = false) (hn : a ∉ ρ ∧ a ∉ φ) (hk : kvs.map (·.1) = es.map fun e => sOf e.1)
    (hx : RVs B ρ φ h (es.map (·.2)) (kvs.map (·.2))) : RV B ρ φ h (.dictS es) (.ref a) :=
  (dictAt ho).elim fun _ zz1 => zz1.elim fun e zz2 => zz2.elim fun z f => .obj (.dictS f hs hk) (.one e hn z) hx
theorem RV.dictI {a : Addr} {es : List (Int × AV)} {kvs : List (Int × Value)} (ho : h.DictOf (intKind B.prog B.w) a kvs) (hs : (a == sysModules) = false) (hn : a ∉ ρ ∧ a ∉ φ) (hk : kvs.map (·.1) = es.map (·.1))
    (hx : RVs B ρ φ h (es.map (·.2)) (kvs.map (·.2))) : RV B ρ φ h (.dictI es) (.ref a) :=
  (dictAt ho).elim fun _ zz1 => zz1.elim fun e zz2 => zz2.elim fun z f => .obj (.dictI f hs hk) (.one e hn z) hx
theorem RV.inst {a dx c : Addr} {as : List (String × AV)} {es : List DictEntry} {n : Nat} (ho : h.get? a = some (instObj c dx)) (hd : h.get? dx = some (dictOf es n)) (hn : a ∉ ρ ∧ a ∉ φ) (hn' : dx ∉ ρ ∧ dx ∉ φ) (hk : KeysAs as es)
    (hx : RVs B ρ φ h (as.map (·.2)) (es.map (·.val))) : RV B ρ φ h (.inst c as) (.ref a) := .obj (.inst hk) (.cons ho hn rfl (.one hd hn' rfl)) hx
theorem RVs.one {x : AV} {v : Value} (hv : RV B ρ φ h x v) : RVs B ρ φ h [x] [v] := .cons hv .nil
theorem RV.stream {a dx f c cd : Addr} {m : Str → Option Value} {r : FnDesc} {fd : FuncData} {doc pm ct lv : Value} {left : AV} (ho : h.get? a = some (fobjOf fd (some dx))) (hd : h.Ns dx m) (hes : m (Str.ofString "read") = some (.ref f))
    (hf : h.get? f = some (fobjOf (fnX r.name r.qual r.params r.body r.scope [("left", c)] .none .none doc pm Option.none (.ref cd) ct) Option.none)) (hcd : ∃ o vs t, h.get? cd = some o ∧ isIt o = false ∧ o.data = .fields vs ∧ vs[1]? = some (.str r.qual t)) (hcell : h.IsCell c (some lv))
    (n1 : a ∉ ρ ∧ a ∉ φ) (n2 : dx ∉ ρ ∧ dx ∉ φ) (n3 : f ∉ ρ ∧ f ∉ φ) (n4 : c ∉ ρ ∧ c ∉ φ) (n5 : cd ∉ ρ ∧ cd ∉ φ) (hx : RV B ρ φ h left lv) : RV B ρ φ h (.stream r left) (.ref a) :=
  hd.elim fun od zz1 => zz1.elim fun es zz2 => zz2.elim fun ep zz3 => zz3.elim fun e1 zz4 => zz4.elim fun r1 y => hcell.elim fun oc zz1 => zz1.elim fun e2 r2 => hcd.elim fun ocd zz1 => zz1.elim fun vs zz2 => zz2.elim fun t zz3 => zz3.elim fun e3 zz4 => zz4.elim fun z3 zz5 => zz5.elim fun r3 q3 =>
  .obj (L := [(a, fobjOf fd (some dx)), (dx, od), (f, fobjOf (fnX r.name r.qual r.params r.body r.scope [("left", c)] .none .none doc pm Option.none (.ref cd) ct) Option.none), (c, oc), (cd, ocd)])
    (.stream (.mk dx fd m f c doc pm cd ct hes ⟨oc, .tail _ (.tail _ (.tail _ (.head _)))⟩ fun _ g => ⟨g _ (.head _), ⟨od, es, ep, g _ (.tail _ (.head _)), r1, y⟩, g _ (.tail _ (.tail _ (.head _))), ⟨_, ocd, vs, t, rfl, g _ (.tail _ (.tail _ (.tail _ (.tail _ (.head _))))), r3, q3⟩, ⟨oc, g _ (.tail _ (.tail _ (.tail _ (.head _)))), r2⟩⟩))
    (.cons ho n1 rfl (.cons e1 n2 (isIt_dict r1) (.cons hf n3 rfl (.cons e2 n4 (isIt_cell r2) (.one e3 n5 z3))))) (.one hx)
theorem RV.meth {a f : Addr} {self : AV} {sv : Value} (ho : h.get? a = some (methodObj (.ref f) sv)) (hn : a ∉ ρ ∧ a ∉ φ) (hx : RV B ρ φ h self sv) : RV B ρ φ h (.meth f self) (.ref a) := .obj .meth (.one ho hn rfl) (.one hx)
end
section
variable (B : Base) (ρ φ : List Addr) (h : Heap)
inductive InvNone : Value → Prop
  | none : InvNone .none
inductive InvBool (b : Bool) : Value → Prop
  | bool : InvBool b (.bool b)
inductive InvInt (i : Int) : Value → Prop
  | int (t) : InvInt i (.int i t)
inductive InvStr (l : List Nat) : Value → Prop
  | str (t) : InvStr l (.str (sOf l) t)
inductive InvTup (xs : List AV) : Value → Prop
  | tup {a vs} (ho : h.IsTuple a vs) (hn : a ∉ ρ ∧ a ∉ φ) (hx : RVs B ρ φ h xs vs.toList) : InvTup xs (.ref a)
inductive InvList (xs : List AV) : Value → Prop
  | list {a vs} (ho : h.PlainList a vs) (hn : a ∉ ρ ∧ a ∉ φ) (hx : RVs B ρ φ h xs vs.toList) : InvList xs (.ref a)
inductive InvDictS (es : List (List Nat × AV)) : Value → Prop
  | dictS {a kvs} (ho : h.DictOf (PySem.strKind B.prog B.w) a kvs) (hs : (a == sysModules) = false) (hn : a ∉ ρ ∧ a ∉ φ) (hk : kvs.map (·.1) = es.map fun e => sOf e.1)
      (hx : RVs B ρ φ h (es.map (·.2)) (kvs.map (·.2))) : InvDictS es (.ref a)
inductive InvDictI (es : List (Int × AV)) : Value → Prop
  | dictI {a kvs} (ho : h.DictOf (intKind B.prog B.w) a kvs) (hs : (a == sysModules) = false) (hn : a ∉ ρ ∧ a ∉ φ) (hk : kvs.map (·.1) = es.map (·.1))
      (hx : RVs B ρ φ h (es.map (·.2)) (kvs.map (·.2))) : InvDictI es (.ref a)
inductive InvInst (c : Addr) (as : List (String × AV)) : Value → Prop
  | inst {a dx es n} (ho : h.get? a = some (instObj c dx)) (hd : h.get? dx = some (dictOf es n)) (hn : a ∉ ρ ∧ a ∉ φ) (hn' : dx ∉ ρ ∧ dx ∉ φ) (hk : KeysAs as es)
      (hx : RVs B ρ φ h (as.map (·.2)) (es.map (·.val))) : InvInst c as (.ref a)
inductive InvRef (i : Nat) : Value → Prop
  | ref {a} (ha : ρ[i]? = some a) : InvRef i (.ref a)
inductive InvVal (w v : Value) : Prop
  | val (e : v = w) (hv : ∀ a, v = .ref a → B.h0.get? a ≠ Option.none) : InvVal w v
inductive InvMeth (f : Addr) (self : AV) : Value → Prop
  | meth {a sv} (ho : h.get? a = some (methodObj (.ref f) sv)) (hn : a ∉ ρ ∧ a ∉ φ) (hx : RV B ρ φ h self sv) : InvMeth f self (.ref a)
inductive InvStream (r : FnDesc) (left : AV) : Value → Prop
  | stream {a L lv} (s : SF r a L lv) (k : Own ρ φ h L) (hx : RV B ρ φ h left lv) : InvStream r left (.ref a)
noncomputable def RVI : AV → Value → Prop
  | .none => InvNone
  | .bool b => InvBool b
  | .int i => InvInt i
  | .str l => InvStr l
  | .tup xs => InvTup B ρ φ h xs
  | .list xs => InvList B ρ φ h xs
  | .dictS es => InvDictS B ρ φ h es
  | .dictI es => InvDictI B ρ φ h es
  | .inst c as => InvInst B ρ φ h c as
  | .ref i => InvRef ρ i
  | .val w => InvVal B w
  | .meth f x => InvMeth B ρ φ h f x
  | .stream r x => InvStream B ρ φ h r x
inductive InvNil : List Value → Prop
  | nil : InvNil []
inductive InvCons (x : AV) (xs : List AV) : List Value → Prop
  | cons {v vs} (hx : RV B ρ φ h x v) (hr : RVs B ρ φ h xs vs) : InvCons x xs (v :: vs)
noncomputable def RVsI : List AV → List Value → Prop
  | [] => InvNil
  | x :: xs => InvCons B ρ φ h x xs
inductive Inv1 (a : AV) : List Value → Prop
  | mk {x} (r1 : RV B ρ φ h a x) : Inv1 a [x]
inductive Inv2 (a b : AV) : List Value → Prop
  | mk {x y} (r1 : RV B ρ φ h a x) (r2 : RV B ρ φ h b y) : Inv2 a b [x, y]
inductive Inv3 (a b c : AV) : List Value → Prop
  | mk {x y z} (r1 : RV B ρ φ h a x) (r2 : RV B ρ φ h b y) (r3 : RV B ρ φ h c z) : Inv3 a b c [x, y, z]
variable {B ρ φ h}
theorem RVs.cut1 {x : AV} {v : Value} (r : RVs B ρ φ h [x] [v]) : RV B ρ φ h x v := by
  cases r with
  | cons hx _ => exact hx
theorem At.inv {a : AV} {v : Value} (e : At B a v) : RVI B ρ φ h a v :=
  At.rec (motive := fun a v _ => RVI B ρ φ h a v) .none (fun _ => .bool) (fun _ t => .int t) (fun _ t => .str t) (fun hv => .val rfl hv) e
theorem Sh.inv {a : AV} {v : Value} {L : List (Addr × Obj)} {vs : List Value} (s : Sh B a v L vs) : Own ρ φ h L → RVs B ρ φ h a.kids vs → RVI B ρ φ h a v :=
  Sh.rec (motive := fun a v L vs _ => Own ρ φ h L → RVs B ρ φ h a.kids vs → RVI B ρ φ h a v) (fun f k hx => .tup (f _ k.hd.1) k.hd.2.1 hx) (fun f k hx => .list (f _ k.hd.1) k.hd.2.1 hx) (fun f hs hk k hx => .dictS (f _ k.hd.1) hs k.hd.2.1 hk hx)
    (fun f hs hk k hx => .dictI (f _ k.hd.1) hs k.hd.2.1 hk hx) (fun hk k hx => .inst k.hd.1 k.tl.hd.1 k.hd.2.1 k.tl.hd.2.1 hk hx) (fun k hx => .meth k.hd.1 k.hd.2.1 hx.cut1) (fun sf k hx => .stream sf k hx.cut1) s
theorem RV.inv {a : AV} {v : Value} (r : RV B ρ φ h a v) : RVI B ρ φ h a v :=
  RV.casesOn (motive_1 := fun a v _ => RVI B ρ φ h a v) r At.inv .ref fun s k hx => s.inv k hx
theorem RV.isStr {l : List Nat} {v : Value} (r : RV B ρ φ h (.str l) v) : ∃ t, v = .str (sOf l) t := InvStr.rec (motive := fun v _ => ∃ t, v = .str (sOf l) t) (fun t => ⟨t, rfl⟩) (show InvStr l v from r.inv)
theorem RV.isInt {i : Int} {v : Value} (r : RV B ρ φ h (.int i) v) : ∃ t, v = .int i t := InvInt.rec (motive := fun v _ => ∃ t, v = .int i t) (fun t => ⟨t, rfl⟩) (show InvInt i v from r.inv)
theorem RV.eqv {w v : Value} (r : RV B ρ φ h (.val w) v) : v = w := InvVal.rec (motive := fun _ => v = w) (fun e _ => e) (show InvVal B w v from r.inv)
theorem RVs.inv {xs : List AV} {vs : List Value} (r : RVs B ρ φ h xs vs) : RVsI B ρ φ h xs vs :=
  RVs.casesOn (motive_2 := fun xs vs _ => RVsI B ρ φ h xs vs) r .nil fun hx hr => .cons hx hr
theorem RVs.hd2 {x : AV} {xs : List AV} {v : Value} {vs : List Value} (r : RVs B ρ φ h (x :: xs) (v :: vs)) : RV B ρ φ h x v := by
  cases r with
  | cons hx _ => exact hx
theorem RVs.tl2 {x : AV} {xs : List AV} {v : Value} {vs : List Value} (r : RVs B ρ φ h (x :: xs) (v :: vs)) : RVs B ρ φ h xs vs := by
  cases r with
  | cons _ hx => exact hx
theorem InvNil.one {vs : List Value} (r : InvNil vs) {a : AV} {x : Value} (h1 : RV B ρ φ h a x) : Inv1 B ρ φ h a (x :: vs) := InvNil.rec (motive := fun vs _ => Inv1 B ρ φ h a (x :: vs)) (.mk h1) r
theorem RVs.inv1 {a : AV} {vs : List Value} (r : RVs B ρ φ h [a] vs) : Inv1 B ρ φ h a vs :=
  InvCons.rec (motive := fun vs _ => Inv1 B ρ φ h a vs) (fun {_ vs} hx hr => InvNil.one (show RVsI B ρ φ h [] vs from hr.inv) hx) (show InvCons B ρ φ h a [] vs from r.inv)
theorem RVs.inv2 {a b : AV} {vs : List Value} (r : RVs B ρ φ h [a, b] vs) : Inv2 B ρ φ h a b vs :=
  InvCons.rec (motive := fun vs _ => Inv2 B ρ φ h a b vs) (fun {x vs} hx hr => Inv1.rec (motive := fun vs _ => Inv2 B ρ φ h a b (x :: vs)) (fun r1 => .mk hx r1) hr.inv1) (show InvCons B ρ φ h a [b] vs from r.inv)
theorem RVs.inv3 {a b c : AV} {vs : List Value} (r : RVs B ρ φ h [a, b, c] vs) : Inv3 B ρ φ h a b c vs :=
  InvCons.rec (motive := fun vs _ => Inv3 B ρ φ h a b c vs) (fun {x vs} hx hr => Inv2.rec (motive := fun vs _ => Inv3 B ρ φ h a b c (x :: vs)) (fun r1 r2 => .mk hx r1 r2) hr.inv2) (show InvCons B ρ φ h a [b, c] vs from r.inv)
end
structure ExtW (ρ φ : List Addr) (h : Heap) (ρ' φ' : List Addr) (h' : Heap) : Prop where
  pre : ρ <+: ρ'
  keep : ∀ a o, h.get? a = some o → a ∉ ρ ∧ a ∉ φ → isIt o = false → h'.get? a = some o ∧ a ∉ ρ' ∧ a ∉ φ'
structure Ext (F : List Nat) (ρ φ : List Addr) (h : Heap) (ρ' φ' : List Addr) (h' : Heap) : Prop where
  pre : ρ <+: ρ'
  keep : ∀ a o, h.get? a = some o → a ∉ ρ → h'.get? a = some o ∧ a ∉ ρ' ∧ (a ∉ φ → a ∉ φ')
  sub : ∀ a ∈ φ, a ∈ φ'
  held : ∀ (i : Nat) a, i ∈ F → ρ[i]? = some a → h'.get? a = h.get? a
theorem ExtW.refl (ρ φ : List Addr) (h : Heap) : ExtW ρ φ h ρ φ h := ⟨List.prefix_rfl, fun _ _ e n _ => ⟨e, n⟩⟩
theorem ExtW.trans {ρ ρ' ρ'' φ φ' φ'' : List Addr} {h h' h'' : Heap} (x : ExtW ρ φ h ρ' φ' h') (y : ExtW ρ' φ' h' ρ'' φ'' h'') : ExtW ρ φ h ρ'' φ'' h'' :=
  ⟨x.pre.trans y.pre, fun a o e n z => (x.keep a o e n z).elim fun e' n' => y.keep a o e' n' z⟩
theorem getρ_of {ρ ρ' : List Addr} (x : ρ <+: ρ') {i : Nat} {a : Addr} (e : ρ[i]? = some a) : ρ'[i]? = some a := by
  refine x.elim fun t zz1 => ?_; (try clear x); (first | subst zz1 | cases zz1)
  have hi : i < ρ.length := by
    rcases Nat.lt_or_ge i ρ.length with h | h
    · exact h
    · rw [List.getElem?_eq_none h] at e; cases e
  rw [List.getElem?_append_left hi]; exact e
theorem Ext.refl (F : List Nat) (ρ φ : List Addr) (h : Heap) : Ext F ρ φ h ρ φ h := ⟨List.prefix_rfl, fun _ _ e n => ⟨e, n, id⟩, fun _ q => q, fun _ _ _ _ => rfl⟩
theorem Ext.trans {F : List Nat} {ρ ρ' ρ'' φ φ' φ'' : List Addr} {h h' h'' : Heap} (x : Ext F ρ φ h ρ' φ' h') (y : Ext F ρ' φ' h' ρ'' φ'' h'') : Ext F ρ φ h ρ'' φ'' h'' :=
  ⟨x.pre.trans y.pre, fun a o e n => (x.keep a o e n).elim fun e' zz1 => zz1.elim fun n' m' => (y.keep a o e' n').elim fun e'' zz1 => zz1.elim fun n'' m'' => ⟨e'', n'', fun q => m'' (m' q)⟩, fun a q => y.sub a (x.sub a q),
    fun i a hi e => (y.held i a hi (getρ_of x.pre e)).trans (x.held i a hi e)⟩
theorem Ext.w {F : List Nat} {ρ ρ' φ φ' : List Addr} {h h' : Heap} (x : Ext F ρ φ h ρ' φ' h') : ExtW ρ φ h ρ' φ' h' := ⟨x.pre, fun a o e n _ => (x.keep a o e n.1).elim fun q1 zz1 => zz1.elim fun q2 q3 => ⟨q1, q2, q3 n.2⟩⟩
theorem Ext.less {F F' : List Nat} {ρ ρ' φ φ' : List Addr} {h h' : Heap} (x : Ext F' ρ φ h ρ' φ' h') (s : ∀ i ∈ F, i ∈ F') : Ext F ρ φ h ρ' φ' h' := ⟨x.pre, x.keep, x.sub, fun i a hi e => x.held i a (s i hi) e⟩
theorem ExtW.getρ {ρ ρ' φ φ' : List Addr} {h h' : Heap} (x : ExtW ρ φ h ρ' φ' h') {i : Nat} {a : Addr} (e : ρ[i]? = some a) : ρ'[i]? = some a := getρ_of x.pre e
theorem ExtW.get {ρ ρ' φ φ' : List Addr} {h h' : Heap} (x : ExtW ρ φ h ρ' φ' h') {a : Addr} {o : Obj} (e : h.get? a = some o) (n : a ∉ ρ ∧ a ∉ φ) (z : isIt o = false) : h'.get? a = some o := (x.keep a o e n z).1
section
variable {B : Base} {ρ ρ' φ φ' : List Addr} {h h' : Heap}
theorem Own.ext (X : ExtW ρ φ h ρ' φ' h') {L : List (Addr × Obj)} (k : Own ρ φ h L) : Own ρ' φ' h' L := fun p hp => (k p hp).elim fun e zz1 => zz1.elim fun n z => (X.keep _ _ e n z).elim fun e' n' => ⟨e', n', z⟩
theorem RV.ext (X : ExtW ρ φ h ρ' φ' h') {v : AV} {c : Value} (r : RV B ρ φ h v c) : RV B ρ' φ' h' v c :=
  RV.rec (motive_1 := fun v c _ => RV B ρ' φ' h' v c) (motive_2 := fun xs vs _ => RVs B ρ' φ' h' xs vs) .atom (fun ha => .ref (X.getρ ha)) (fun s k _ ih => .obj s (k.ext X) ih) .nil (fun _ _ a b => .cons a b) r
theorem RVs.ext (X : ExtW ρ φ h ρ' φ' h') {xs : List AV} {vs : List Value} (r : RVs B ρ φ h xs vs) : RVs B ρ' φ' h' xs vs :=
  RVs.rec (motive_1 := fun v c _ => RV B ρ' φ' h' v c) (motive_2 := fun xs vs _ => RVs B ρ' φ' h' xs vs) .atom (fun ha => .ref (X.getρ ha)) (fun s k _ ih => .obj s (k.ext X) ih) .nil (fun _ _ a b => .cons a b) r
end
noncomputable def AO.kids : AO → List AV
  | .list xs => xs
  | .dictS es => es.map (·.2)
  | .dictI es => es.map (·.2)
  | .ns as => as.map (·.2)
  | .citer f s => [f, s]
  | _ => []
noncomputable def AO.link : AO → Option Nat
  | .inst _ d => some d
  | _ => none
inductive ShO (B : Base) : AO → Addr → Obj → Addr → List Value → Prop
  | list {a o dx xs vs} (f : ∀ h : Heap, h.get? a = some o → h.PlainList a vs) : ShO B (.list xs) a o dx vs.toList
  | dictS {a o dx es kvs} (f : ∀ h : Heap, h.get? a = some o → h.DictOf (PySem.strKind B.prog B.w) a kvs) (hs : (a == sysModules) = false) (hk : kvs.map (·.1) = es.map fun e => sOf e.1) : ShO B (.dictS es) a o dx (kvs.map (·.2))
  | dictI {a o dx es kvs} (f : ∀ h : Heap, h.get? a = some o → h.DictOf (intKind B.prog B.w) a kvs) (hs : (a == sysModules) = false) (hk : kvs.map (·.1) = es.map (·.1)) : ShO B (.dictI es) a o dx (kvs.map (·.2))
  | inst {a d dx c} : ShO B (.inst c d) a (instObj c dx) dx []
  | ns {a dx as es n} (hk : KeysAs as es) : ShO B (.ns as) a (dictOf es n) dx (es.map (·.val))
  | citer {a dx f s fv sv} : ShO B (.citer f s) a { cls := .type "callable_iterator", data := .fields #[fv, sv, .bool false] } dx [fv, sv]
  | cdone {a dx} : ShO B .cdone a { cls := .type "callable_iterator", data := .fields #[.none, .none, .bool true] } dx []
  | tab0 {P dx} : ShO B (.tab0 P) P (tabObj #[]) dx []
  | opaq {a dx ps} : ShO B .opaq a (tabObj ps) dx []
inductive RO (B : Base) (ρ φ : List Addr) (h : Heap) (o : AO) (a : Addr) : Prop
  | mk {ob dx vs} (s : ShO B o a ob dx vs) (ho : h.get? a = some ob) (hr : ∀ d, o.link = some d → ρ[d]? = some dx) (hx : RVs B ρ φ h o.kids vs) : RO B ρ φ h o a
section
variable {B : Base} {ρ φ : List Addr} {h : Heap} {a : Addr}
theorem RO.list {xs : List AV} {vs : Array Value} (ho : h.PlainList a vs) (hx : RVs B ρ φ h xs vs.toList) : RO B ρ φ h (.list xs) a := ho.elim fun n e => .mk (dx := 0) (.list fun _ e => ⟨n, e⟩) e (fun _ => nofun) hx
theorem RO.dictS {es : List (List Nat × AV)} {kvs : List (Str × Value)} (ho : h.DictOf (PySem.strKind B.prog B.w) a kvs) (hs : (a == sysModules) = false) (hk : kvs.map (·.1) = es.map fun e => sOf e.1)
    (hx : RVs B ρ φ h (es.map (·.2)) (kvs.map (·.2))) : RO B ρ φ h (.dictS es) a := (dictAt ho).elim fun _ zz1 => zz1.elim fun e zz2 => zz2.elim fun _ f => .mk (dx := 0) (.dictS f hs hk) e (fun _ => nofun) hx
theorem RO.dictI {es : List (Int × AV)} {kvs : List (Int × Value)} (ho : h.DictOf (intKind B.prog B.w) a kvs) (hs : (a == sysModules) = false) (hk : kvs.map (·.1) = es.map (·.1))
    (hx : RVs B ρ φ h (es.map (·.2)) (kvs.map (·.2))) : RO B ρ φ h (.dictI es) a := (dictAt ho).elim fun _ zz1 => zz1.elim fun e zz2 => zz2.elim fun _ f => .mk (dx := 0) (.dictI f hs hk) e (fun _ => nofun) hx
theorem RO.inst {d : Nat} {dx c : Addr} (ho : h.get? a = some (instObj c dx)) (hd : ρ[d]? = some dx) : RO B ρ φ h (.inst c d) a := .mk .inst ho (fun _ e => Option.some.inj e ▸ hd) .nil
theorem RO.ns {as : List (String × AV)} {es : List DictEntry} {n : Nat} (hd : h.get? a = some (dictOf es n)) (hk : KeysAs as es) (hx : RVs B ρ φ h (as.map (·.2)) (es.map (·.val))) : RO B ρ φ h (.ns as) a := .mk (dx := 0) (.ns hk) hd (fun _ => nofun) hx
theorem RO.citer {f s : AV} {fv sv : Value} (ho : h.get? a = some { cls := .type "callable_iterator", data := .fields #[fv, sv, .bool false] }) (hf : RV B ρ φ h f fv) (hs : RV B ρ φ h s sv) : RO B ρ φ h (.citer f s) a := .mk (dx := 0) .citer ho (fun _ => nofun) (.cons hf (.one hs))
theorem RO.cdone (ho : h.get? a = some { cls := .type "callable_iterator", data := .fields #[.none, .none, .bool true] }) : RO B ρ φ h .cdone a := .mk (dx := 0) .cdone ho (fun _ => nofun) .nil
theorem RO.tab0 {P : Addr} (e : a = P) (ho : h.get? a = some (tabObj #[])) : RO B ρ φ h (.tab0 P) a := .mk (dx := 0) (e ▸ .tab0) ho (fun _ => nofun) .nil
theorem RO.opaq (ho : ∃ ps, h.get? a = some (tabObj ps)) : RO B ρ φ h .opaq a := ho.elim fun _ e => .mk (dx := 0) .opaq e (fun _ => nofun) .nil
end
section
variable (B : Base) (ρ φ : List Addr) (h : Heap)
inductive OList (xs : List AV) (a : Addr) : Prop
  | list {vs} (ho : h.PlainList a vs) (hx : RVs B ρ φ h xs vs.toList) : OList xs a
inductive ODictS (es : List (List Nat × AV)) (a : Addr) : Prop
  | dictS {kvs} (ho : h.DictOf (PySem.strKind B.prog B.w) a kvs) (hs : (a == sysModules) = false) (hk : kvs.map (·.1) = es.map fun e => sOf e.1) (hx : RVs B ρ φ h (es.map (·.2)) (kvs.map (·.2))) : ODictS es a
inductive ODictI (es : List (Int × AV)) (a : Addr) : Prop
  | dictI {kvs} (ho : h.DictOf (intKind B.prog B.w) a kvs) (hs : (a == sysModules) = false) (hk : kvs.map (·.1) = es.map (·.1)) (hx : RVs B ρ φ h (es.map (·.2)) (kvs.map (·.2))) : ODictI es a
inductive OInst (c : Addr) (d : Nat) (a : Addr) : Prop
  | inst {dx} (ho : h.get? a = some (instObj c dx)) (hd : ρ[d]? = some dx) : OInst c d a
inductive ONs (as : List (String × AV)) (a : Addr) : Prop
  | ns {es n} (hd : h.get? a = some (dictOf es n)) (hk : KeysAs as es) (hx : RVs B ρ φ h (as.map (·.2)) (es.map (·.val))) : ONs as a
inductive OCiter (f s : AV) (a : Addr) : Prop
  | citer {fv sv} (ho : h.get? a = some { cls := .type "callable_iterator", data := .fields #[fv, sv, .bool false] }) (hf : RV B ρ φ h f fv) (hs : RV B ρ φ h s sv) : OCiter f s a
inductive OCdone (a : Addr) : Prop
  | cdone (ho : h.get? a = some { cls := .type "callable_iterator", data := .fields #[.none, .none, .bool true] }) : OCdone a
inductive OTab0 (P a : Addr) : Prop
  | tab0 (e : a = P) (ho : h.get? a = some (tabObj #[])) : OTab0 P a
inductive OOpaq (a : Addr) : Prop
  | opaq (ho : ∃ ps, h.get? a = some (tabObj ps)) : OOpaq a
noncomputable def ROI : AO → Addr → Prop
  | .list xs => OList B ρ φ h xs
  | .dictS es => ODictS B ρ φ h es
  | .dictI es => ODictI B ρ φ h es
  | .inst c d => OInst ρ h c d
  | .ns as => ONs B ρ φ h as
  | .tab0 P => OTab0 h P
  | .opaq => OOpaq h
  | .citer f s => OCiter B ρ φ h f s
  | .cdone => OCdone h
variable {B ρ φ h}
theorem ShO.inv {o : AO} {a : Addr} {ob : Obj} {dx : Addr} {vs : List Value} (s : ShO B o a ob dx vs) : h.get? a = some ob → (∀ d, o.link = some d → ρ[d]? = some dx) → RVs B ρ φ h o.kids vs → ROI B ρ φ h o a :=
  ShO.rec (motive := fun o a ob dx vs _ => h.get? a = some ob → (∀ d, o.link = some d → ρ[d]? = some dx) → RVs B ρ φ h o.kids vs → ROI B ρ φ h o a) (fun f ho _ hx => .list (f _ ho) hx) (fun f hs hk ho _ hx => .dictS (f _ ho) hs hk hx)
    (fun f hs hk ho _ hx => .dictI (f _ ho) hs hk hx) (fun ho hr _ => .inst ho (hr _ rfl)) (fun hk ho _ hx => .ns ho hk hx) (fun ho _ hx => .citer ho hx.hd2 hx.tl2.cut1) (fun ho _ _ => .cdone ho) (fun ho _ _ => .tab0 rfl ho) (fun ho _ _ => .opaq ⟨_, ho⟩) s
theorem RO.inv {o : AO} {a : Addr} (r : RO B ρ φ h o a) : ROI B ρ φ h o a := let ⟨s, ho, hr, hx⟩ := r; s.inv ho hr hx
end
structure Rep (B : Base) (ρ φ : List Addr) (H : List AO) (s : Shared) : Prop where
  len : ρ.length = H.length
  nodup : ρ.Nodup
  obj : ∀ (i : Nat) o a, H[i]? = some o → ρ[i]? = some a → RO B ρ φ s.heap o a
  base : ∀ a o, B.h0.get? a = some o → s.heap.get? a = some o
  sep : ∀ a, a ∈ ρ ∨ a ∈ φ → B.h0.get? a = none
  disj : ∀ a ∈ φ, a ∉ ρ
  alive : ∀ a, a ∈ ρ ∨ a ∈ φ → ∃ o, s.heap.get? a = some o
  gens : s.gens = #[]
  os : s.os = B.os
theorem Rep.baseNotin {B : Base} {ρ φ : List Addr} {H : List AO} {s : Shared} (R : Rep B ρ φ H s) {a : Addr} {o : Obj} (e : B.h0.get? a = some o) : a ∉ ρ ∧ a ∉ φ :=
  ⟨(fun q => by have := R.sep a (.inl q); rw [e] at this; cases this), fun q => by have := R.sep a (.inr q); rw [e] at this; cases this⟩
theorem Rep.fresh {B : Base} {ρ φ : List Addr} {H : List AO} {s : Shared} (R : Rep B ρ φ H s) {a : Addr} (ha : s.heap.objs.size ≤ a) : a ∉ ρ ∧ a ∉ φ :=
  ⟨fun q => absurd ((R.alive a (.inl q)).elim fun _ e => Heap.lt_size e) (Nat.not_lt.mpr ha), fun q => absurd ((R.alive a (.inr q)).elim fun _ e => Heap.lt_size e) (Nat.not_lt.mpr ha)⟩
noncomputable abbrev Vars := List (String × AV)
noncomputable def upd (x : String) (v : AV) : Vars → Vars
  | [] => [(x, v)]
  | (y, u) :: r => if x == y then (x, v) :: r else (y, u) :: upd x v r
theorem upd_self (x : String) (v : AV) : ∀ vs : Vars, (upd x v vs).lookup x = some v
  | [] => by simp [upd]
  | (y, u) :: r => by
    unfold upd
    by_cases h : (x == y) = true
    · simp [h]
    · have h' : (x == y) = false := by simpa using h
      rw [if_neg h, List.lookup_cons, h']; exact upd_self x v r
theorem upd_ne {x y : String} (v : AV) (hxy : y ≠ x) : ∀ vs : Vars, (upd x v vs).lookup y = vs.lookup y
  | [] => by
    have : (y == x) = false := by simpa using hxy
    simp [upd, List.lookup_cons, this]
  | (z, u) :: r => by
    have hyx : (y == x) = false := by simpa using hxy
    unfold upd
    by_cases h : (x == z) = true
    · have hz : x = z := by simpa using h
      subst hz
      rw [if_pos h, List.lookup_cons, List.lookup_cons, hyx]
    · rw [if_neg h, List.lookup_cons, List.lookup_cons]
      cases y == z with
      | true => rfl
      | false => exact upd_ne v hxy r
theorem ofString_inj {a b : String} (h : Str.ofString a = Str.ofString b) : a = b := by
  rw [Str.ofString_eq_toList, Str.ofString_eq_toList] at h
  have h1 : (a.toList.map Char.toNat) = b.toList.map Char.toNat := by
    have := congrArg (fun s : Str => s.cps.toList) h
    simpa using this
  have inj : ∀ {l m : List Char}, l.map Char.toNat = m.map Char.toNat → l = m := by
    intro l
    induction l with
    | nil => intro m h; cases m with
      | nil => rfl
      | cons _ _ => cases h
    | cons c l ih => intro m h; cases m with
      | nil => cases h
      | cons d m =>
        rw [List.map_cons, List.map_cons, List.cons.injEq] at h
        have : c = d := by
          have := h.1
          exact Char.toNat_inj.mp this
        rw [this, ih h.2]
  exact String.toList_inj.mp (inj h1)
structure RVars (B : Base) (ρ φ : List Addr) (env : Env) (vars : Vars) (h : Heap) : Prop where
  loc : ∃ m, h.Ns env.locals m ∧ ∀ x v, vars.lookup x = some v → env.kindOf (Str.ofString x) = some .local → ∃ c, m (Str.ofString x) = some c ∧ RV B ρ φ h v c
  cells : ∀ x v, vars.lookup x = some v → (env.kindOf (Str.ofString x) = some .cell ∨ env.kindOf (Str.ofString x) = some .free) → ∃ a c, env.cells.lookup (Str.ofString x) = some a ∧ h.IsCell a (some c) ∧ RV B ρ φ h v c
  iscell : ∀ x a, env.cells.lookup x = some a → ∃ v, h.IsCell a v
  locn : env.locals ∉ ρ
  locφ : env.locals ∈ φ
  celln : ∀ x a, env.cells.lookup x = some a → a ∉ ρ
  apart : ∀ x y a, env.cells.lookup x = some a → env.cells.lookup y = some a → x = y
  cellsAll : ∀ x, env.kindOf x = some .cell ∨ env.kindOf x = some .free → ∃ a, env.cells.lookup x = some a
theorem RVars.extW {B : Base} {ρ ρ' φ φ' : List Addr} {env : Env} {vars : Vars} {h h' : Heap} (R : RVars B ρ φ env vars h) (X : ExtW ρ φ h ρ' φ' h')
    (hl : ∀ a o, h.get? a = some o → (a = env.locals ∨ ∃ x, env.cells.lookup x = some a) → h'.get? a = some o ∧ a ∉ ρ') (hs : ∀ a ∈ φ, a ∈ φ') : RVars B ρ' φ' env vars h' := by
  obtain ⟨⟨m, ⟨o, es, ep, ho, hd, hr⟩, hm⟩, hc, hi, hn, hφ, hci, ha, hca⟩ := R
  refine ⟨⟨m, ⟨o, es, ep, (hl _ _ ho (.inl rfl)).1, hd, hr⟩, fun x v e k => let ⟨c, q1, q2⟩ := hm x v e k; ⟨c, q1, q2.ext X⟩⟩, fun x v e k => ?_, fun x a e => ?_, (hl _ _ ho (.inl rfl)).2, hs _ hφ, fun x a e => ?_, ha, hca⟩
  · obtain ⟨a, c, q1, ⟨oc, q2, q3⟩, q4⟩ := hc x v e k
    exact ⟨a, c, q1, ⟨oc, (hl _ _ q2 (.inr ⟨_, q1⟩)).1, q3⟩, q4.ext X⟩
  · obtain ⟨v, oc, q2, q3⟩ := hi x a e
    exact ⟨v, oc, (hl _ _ q2 (.inr ⟨_, e⟩)).1, q3⟩
  · obtain ⟨v, oc, q2, q3⟩ := hi x a e
    exact (hl _ _ q2 (.inr ⟨_, e⟩)).2
theorem RVars.ext {B : Base} {F : List Nat} {ρ ρ' φ φ' : List Addr} {env : Env} {vars : Vars} {h h' : Heap} (R : RVars B ρ φ env vars h) (X : Ext F ρ φ h ρ' φ' h') : RVars B ρ' φ' env vars h' :=
  R.extW X.w (fun a o e q => by
    rcases q with q | ⟨x, q⟩
    · subst q; exact ⟨(X.keep _ _ e R.locn).1, (X.keep _ _ e R.locn).2.1⟩
    · exact ⟨(X.keep _ _ e (R.celln x a q)).1, (X.keep _ _ e (R.celln x a q)).2.1⟩) X.sub
structure AOk (d : Nat) (A : Around) : Prop where
  handled : A.handled = none
  depth : A.depth + 2 * d ≤ 900
  units : A.units + 10 * d ≤ 9000
structure EnvOk (sc : Scope) (env : Env) : Prop where
  scope : env.scope = sc
  kind : sc.kind = .function
  globals : env.globals = mainGlobals
  builtins : env.builtins = builtinsNs
theorem EnvOk.kindOf {sc : Scope} {env : Env} (E : EnvOk sc env) (x : Str) : env.kindOf x = sc.names.lookup x := by rw [Env.kindOf, E.scope]
theorem EnvOk.kind' {sc : Scope} {env : Env} (E : EnvOk sc env) : env.scope.kind = .function := by rw [E.scope]; exact E.kind
structure Cx where
  B : Base
  F : List Nat
  d : Nat
inductive Post (C : Cx) (ρ φ : List Addr) (s : Shared) (Q : AV → List AO → Prop) (v : Value) (s' : Shared) : Prop
  | mk (ρ' φ' : List Addr) (H' : List AO) (v' : AV) (X : Ext C.F ρ φ s.heap ρ' φ' s'.heap) (R : Rep C.B ρ' φ' H' s') (r : RV C.B ρ' φ' s'.heap v' v) (q : Q v' H')
theorem Post.elim {C : Cx} {ρ φ : List Addr} {s : Shared} {Q : AV → List AO → Prop} {v : Value} {s' : Shared} {goal : Prop} (it0 : Post C ρ φ s Q v s') (k : ∀ (ρ' φ' : List Addr) (H' : List AO) (v' : AV) (X : Ext C.F ρ φ s.heap ρ' φ' s'.heap) (R : Rep C.B ρ' φ' H' s') (r : RV C.B ρ' φ' s'.heap v' v) (q : Q v' H'), goal) : goal := Post.rec (motive := fun _ => goal) k it0
inductive PostB (C : Cx) (ρ φ : List Addr) (s : Shared) (Q : Bool → List AO → Prop) (b : Bool) (s' : Shared) : Prop
  | mk (ρ' φ' : List Addr) (H' : List AO) (X : Ext C.F ρ φ s.heap ρ' φ' s'.heap) (R : Rep C.B ρ' φ' H' s') (q : Q b H')
theorem PostB.elim {C : Cx} {ρ φ : List Addr} {s : Shared} {Q : Bool → List AO → Prop} {b : Bool} {s' : Shared} {goal : Prop} (it0 : PostB C ρ φ s Q b s') (k : ∀ (ρ' φ' : List Addr) (H' : List AO) (X : Ext C.F ρ φ s.heap ρ' φ' s'.heap) (R : Rep C.B ρ' φ' H' s') (q : Q b H'), goal) : goal := PostB.rec (motive := fun _ => goal) k it0
inductive PostH (C : Cx) (ρ φ : List Addr) (s : Shared) (Q : List AO → Prop) (s' : Shared) : Prop
  | mk (ρ' φ' : List Addr) (H' : List AO) (X : Ext C.F ρ φ s.heap ρ' φ' s'.heap) (R : Rep C.B ρ' φ' H' s') (q : Q H')
theorem PostH.elim {C : Cx} {ρ φ : List Addr} {s : Shared} {Q : List AO → Prop} {s' : Shared} {goal : Prop} (it0 : PostH C ρ φ s Q s') (k : ∀ (ρ' φ' : List Addr) (H' : List AO) (X : Ext C.F ρ φ s.heap ρ' φ' s'.heap) (R : Rep C.B ρ' φ' H' s') (q : Q H'), goal) : goal := PostH.rec (motive := fun _ => goal) k it0
inductive PostT (s : Shared) (Q : Bool → Prop) (b : Bool) (s' : Shared) : Prop
  | mk (tk : Nat) (e : s' = { s with toks := tk }) (q : Q b)
theorem PostT.elim {s : Shared} {Q : Bool → Prop} {b : Bool} {s' : Shared} {goal : Prop} (it0 : PostT s Q b s') (k : ∀ (tk : Nat) (e : s' = { s with toks := tk }) (q : Q b), goal) : goal := PostT.rec (motive := fun _ => goal) k it0
noncomputable def noE : Value → Shared → Prop := fun _ _ => False
theorem Post.ext {C : Cx} {ρ ρ' φ φ' : List Addr} {s s' : Shared} {Q : AV → List AO → Prop} {v : Value} {t : Shared} (X : Ext C.F ρ φ s.heap ρ' φ' s'.heap) (p : Post C ρ' φ' s' Q v t) : Post C ρ φ s Q v t :=
  p.elim fun ρ'' φ'' H' v' X' R r q => ⟨ρ'', φ'', H', v', X.trans X', R, r, q⟩
noncomputable def EV (C : Cx) (sc : Scope) (vars : Vars) (H : List AO) (e : Expr) (Q : AV → List AO → Prop) : Prop :=
  ∀ (A : Around) (env : Env) (ρ φ : List Addr) (s : Shared), AOk C.d A → EnvOk sc env → Rep C.B ρ φ H s → RVars C.B ρ φ env vars s.heap →
    wpAny (model C.B.prog C.B.w) A (eval e env) (Post C ρ φ s Q) noE s
noncomputable def OP2 (C : Cx) (H : List AO) (a b : AV) (t : Value → Value → Sem Value) (Q : AV → List AO → Prop) : Prop :=
  ∀ (A : Around) (ρ φ : List Addr) (s : Shared) (x y : Value), AOk C.d A → Rep C.B ρ φ H s → RV C.B ρ φ s.heap a x → RV C.B ρ φ s.heap b y →
    wpAny (model C.B.prog C.B.w) A (t x y) (Post C ρ φ s Q) noE s
end
section
section
variable {C : Cx} {B : Base} {F : List Nat} {ρ ρ' φ φ' : List Addr} {H H' : List AO} {s s' : Shared} {h h' : Heap}
theorem RO.keep {o : AO} {a : Addr} (X : ExtW ρ φ h ρ' φ' h') (e : h'.get? a = h.get? a) (x : RO B ρ φ h o a) : RO B ρ' φ' h' o a :=
  let ⟨s, ho, hr, hx⟩ := x; ⟨s, e.trans ho, fun d q => X.getρ (hr d q), hx.ext X⟩
theorem Rep.step (R : Rep B ρ φ H s) (X : ExtW ρ φ s.heap ρ' φ' s'.heap) (hb : ∀ a o, B.h0.get? a = some o → s'.heap.get? a = some o) (hlen : ρ'.length = H'.length) (nd : ρ'.Nodup)
    (hobj : ∀ (i : Nat) o a, H'[i]? = some o → ρ'[i]? = some a → (H[i]? = some o ∧ ρ[i]? = some a ∧ s'.heap.get? a = s.heap.get? a) ∨ RO B ρ' φ' s'.heap o a)
    (hsep : ∀ a, a ∈ ρ' ∨ a ∈ φ' → (a ∈ ρ ∨ a ∈ φ) ∨ s.heap.objs.size ≤ a) (hdis : ∀ a ∈ φ', a ∉ ρ') (hal : ∀ a, a ∈ ρ' ∨ a ∈ φ' → ∃ o, s'.heap.get? a = some o) (hg : s'.gens = s.gens := by rfl) (ho : s'.os = s.os := by rfl) : Rep B ρ' φ' H' s' where
  len := hlen
  nodup := nd
  obj := fun i o a e1 e2 => by
    rcases hobj i o a e1 e2 with ⟨q1, q2, q3⟩ | q
    · exact (R.obj i o a q1 q2).keep X q3
    · exact q
  base := hb
  sep := fun a ha => by
    rcases hsep a ha with q | q
    · exact R.sep a q
    · cases e : B.h0.get? a with
      | none => rfl
      | some o => exact absurd (Heap.lt_size (R.base a o e)) (Nat.not_lt.mpr q)
  disj := hdis
  alive := hal
  gens := hg.trans R.gens
  os := ho.trans R.os
theorem Rep.baseExt (R : Rep B ρ φ H s) (X : Ext F ρ φ s.heap ρ' φ' h') : ∀ a o, B.h0.get? a = some o → h'.get? a = some o := fun a o e => (X.keep a o (R.base a o e) (R.baseNotin e).1).1
theorem Rep.toks (R : Rep B ρ φ H s) (t : Nat) : Rep B ρ φ H { s with toks := t } := ⟨R.len, R.nodup, R.obj, R.base, R.sep, R.disj, R.alive, R.gens, R.os⟩
theorem Rep.anyToks {g : Array GenState} {d : Drawn} {t : Nat} {os : OsState} (R : Rep B ρ φ H s) (hg : g = s.gens := by rfl) (ho : os = s.os := by rfl) : Rep B ρ φ H ⟨s.heap, g, d, t, os⟩ :=
  ⟨R.len, R.nodup, R.obj, R.base, R.sep, R.disj, R.alive, hg.trans R.gens, ho.trans R.os⟩
theorem ext_keeps (R : Rep B ρ φ H s) (k : ∀ a o, s.heap.get? a = some o → h'.get? a = some o) : Ext F ρ φ s.heap ρ φ h' :=
  ⟨List.prefix_rfl, fun a o e n => ⟨k a o e, n, id⟩, fun _ q => q, fun i a _ e => by refine (R.alive a (.inl (List.mem_of_getElem? e))).elim fun o q => ?_; rw [q, k a o q]⟩
theorem ext_push (R : Rep B ρ φ H s) (o : Obj) : Ext F ρ φ s.heap ρ φ (s.heap.push o) := ext_keeps R fun _ _ e => Heap.get?_push_of_some o e
theorem ext_same {a : Addr} {i : Nat} (nd : ρ.Nodup) (ha : ρ[i]? = some a) (hi : i ∉ F) (x : Heap.SameBut a h h') : Ext F ρ φ h ρ φ h' :=
  ⟨List.prefix_rfl, fun b o e n => ⟨(x.2 b (fun q => n (q ▸ List.mem_of_getElem? ha))).trans e, n, id⟩, fun _ q => q, fun j b hj e => x.2 b fun q => by
    subst q
    refine (List.getElem?_eq_some_iff.mp ha).elim fun h1 e1 => ?_
    refine (List.getElem?_eq_some_iff.mp e).elim fun h2 e2 => ?_
    have := (List.getElem_inj nd).mp (e1.trans e2.symm)
    exact hi (this ▸ hj)⟩
theorem Rep.keeps (R : Rep B ρ φ H s) (k : ∀ a o, s.heap.get? a = some o → s'.heap.get? a = some o)
    (hg : s'.gens = s.gens := by rfl) (ho : s'.os = s.os := by rfl) : Rep B ρ φ H s' :=
  have X : Ext [] ρ φ s.heap ρ φ s'.heap := ext_keeps R k
  R.step X.w (R.baseExt X) R.len R.nodup (fun _ _ a e1 e2 => .inl ⟨e1, e2, by refine (R.alive a (.inl (List.mem_of_getElem? e2))).elim fun o q => ?_; rw [q, k a o q]⟩) (fun _ q => .inl q) R.disj
    (fun a q => (R.alive a q).elim fun o e => ⟨o, k a o e⟩) hg ho
theorem Rep.push (R : Rep B ρ φ H s) (o : Obj) {g : Array GenState} {d : Drawn} {t : Nat} {os : OsState} (hg : g = s.gens := by rfl) (ho : os = s.os := by rfl) : Rep B ρ φ H ⟨s.heap.push o, g, d, t, os⟩ :=
  R.keeps (s' := ⟨s.heap.push o, g, d, t, os⟩) (fun _ _ e => Heap.get?_push_of_some o e) hg ho
theorem Rep.new (R : Rep B ρ φ H s) (o : Obj) (ao : AO) (hfree : o.isFreed = false) {g : Array GenState} {d : Drawn} {t : Nat} {os : OsState}
    (x : ExtW ρ φ s.heap (ρ ++ [s.heap.objs.size]) φ (s.heap.push o) → RO B (ρ ++ [s.heap.objs.size]) φ (s.heap.push o) ao s.heap.objs.size) (hg : g = s.gens := by rfl) (ho : os = s.os := by rfl) :
    Ext F ρ φ s.heap (ρ ++ [s.heap.objs.size]) φ (s.heap.push o) ∧ Rep B (ρ ++ [s.heap.objs.size]) φ (H ++ [ao]) ⟨s.heap.push o, g, d, t, os⟩ := by
  have X : ∀ {F}, Ext F ρ φ s.heap (ρ ++ [s.heap.objs.size]) φ (s.heap.push o) := fun {F} =>
    ⟨List.prefix_append _ _, fun a o' e n => ⟨Heap.get?_push_of_some o e, fun q => by
      rcases List.mem_append.mp q with q | q
      · exact n q
      · rw [List.mem_singleton] at q; subst q; exact absurd (Heap.lt_size e) (Nat.lt_irrefl _), id⟩, fun _ q => q, (ext_push (F := F) R o).held⟩
  refine ⟨X, R.step (s' := ⟨s.heap.push o, g, d, t, os⟩) (X (F := [])).w (R.baseExt (X (F := []))) (by simp [R.len]) ?_ (fun i o' a e1 e2 => ?_) (fun a ha => ?_) (fun a ha => ?_) (fun a ha => ?_) hg ho⟩
  · rw [List.nodup_append]
    refine ⟨R.nodup, by simp, fun a ha b hb => ?_⟩
    rw [List.mem_singleton] at hb; subst hb
    refine (R.alive a (.inl ha)).elim fun o' e => ?_
    exact Nat.ne_of_lt (Heap.lt_size e)
  · rcases Nat.lt_trichotomy i ρ.length with q | q | q
    · rw [List.getElem?_append_left (by rw [← R.len]; exact q)] at e1
      rw [List.getElem?_append_left q] at e2
      refine (R.alive a (.inl (List.mem_of_getElem? e2))).elim fun o'' e => ?_
      exact .inl ⟨e1, e2, by rw [e]; exact Heap.get?_push_of_some o e⟩
    · subst q
      rw [List.getElem?_append_right (Nat.le_refl _), Nat.sub_self] at e2
      rw [R.len, List.getElem?_append_right (Nat.le_refl _), Nat.sub_self] at e1
      cases e1; cases e2
      exact .inr (x (X (F := [])).w)
    · rw [List.getElem?_eq_none (by simp; omega)] at e2; cases e2
  · rcases ha with ha | ha
    · rcases List.mem_append.mp ha with q | q
      · exact .inl (.inl q)
      · rw [List.mem_singleton] at q; subst q; exact .inr (Nat.le_refl _)
    · exact .inl (.inr ha)
  · intro q
    rcases List.mem_append.mp q with q | q
    · exact R.disj a ha q
    · rw [List.mem_singleton] at q; subst q; exact (R.fresh (Nat.le_refl _)).2 ha
  · rcases ha with ha | ha
    · rcases List.mem_append.mp ha with q | q
      · refine (R.alive a (.inl q)).elim fun o' e => ?_; exact ⟨o', Heap.get?_push_of_some o e⟩
      · rw [List.mem_singleton] at q; subst q; exact ⟨o, Heap.get?_push_size _ hfree⟩
    · refine (R.alive a (.inr ha)).elim fun o' e => ?_; exact ⟨o', Heap.get?_push_of_some o e⟩
theorem nodup_inj {α : Type} {l : List α} (nd : l.Nodup) {i j : Nat} {a : α} (hi : l[i]? = some a) (hj : l[j]? = some a) : i = j := by
  refine (List.getElem?_eq_some_iff.mp hi).elim fun h1 e1 => ?_
  refine (List.getElem?_eq_some_iff.mp hj).elim fun h2 e2 => ?_
  exact (List.getElem_inj nd).mp (e1.trans e2.symm)
theorem Rep.set (R : Rep B ρ φ H s) {i : Nat} {a : Addr} (ha : ρ[i]? = some a) (hi : i ∉ F) (x : Heap.SameBut a s.heap h') (o : AO) (hl : ∃ ob, h'.get? a = some ob) (ho : ExtW ρ φ s.heap ρ φ h' → RO B ρ φ h' o a) {g : Array GenState} {d : Drawn} {t : Nat} {os : OsState}
    (hg : g = s.gens := by rfl) (hos : os = s.os := by rfl) : Ext F ρ φ s.heap ρ φ h' ∧ Rep B ρ φ (H.set i o) ⟨h', g, d, t, os⟩ := by
  have X : Ext F ρ φ s.heap ρ φ h' := ext_same R.nodup ha hi x
  refine ⟨X, R.step (s' := ⟨h', g, d, t, os⟩) X.w (R.baseExt X) (by rw [List.length_set]; exact R.len) R.nodup (fun j o' b e1 e2 => ?_) (fun _ q => .inl q) R.disj (fun b q => ?_) hg hos⟩
  · by_cases q : i = j
    · subst q
      rw [ha] at e2; cases e2
      have hi : i < H.length := by rw [← R.len]; exact (List.getElem?_eq_some_iff.mp ha).1
      rw [List.getElem?_set_self hi] at e1; cases e1
      exact .inr (ho X.w)
    · rw [List.getElem?_set_ne q] at e1
      exact .inl ⟨e1, e2, x.2 b fun z => q (nodup_inj R.nodup ha (z ▸ e2))⟩
  · by_cases z : b = a
    · subst z; exact hl
    · refine (R.alive b q).elim fun ob e => ?_; exact ⟨ob, (x.2 b z).trans e⟩
theorem post_pure (R : Rep C.B ρ φ H s) {Q : AV → List AO → Prop} {v : AV} {c : Value} (hv : RV C.B ρ φ s.heap v c) (q : Q v H) : Post C ρ φ s Q c s := ⟨ρ, φ, H, v, Ext.refl _ _ _ _, R, hv, q⟩
theorem post_toks (R : Rep C.B ρ φ H s) {Q : AV → List AO → Prop} {v : AV} {c : Value} {t : Nat} (hv : RV C.B ρ φ s.heap v c) (q : Q v H) : Post C ρ φ s Q c ⟨s.heap, s.gens, s.drawn, t, s.os⟩ := ⟨ρ, φ, H, v, Ext.refl _ _ _ _, R.anyToks, hv, q⟩
theorem post_push (R : Rep C.B ρ φ H s) {o : Obj} {Q : AV → List AO → Prop} {v : AV} {g : Array GenState} {d : Drawn} {t : Nat} {os : OsState}
    (hv : ExtW ρ φ s.heap ρ φ (s.heap.push o) → s.heap.objs.size ∉ ρ ∧ s.heap.objs.size ∉ φ → RV C.B ρ φ (s.heap.push o) v (.ref s.heap.objs.size)) (q : Q v H) (hg : g = s.gens := by rfl) (ho : os = s.os := by rfl) :
    Post C ρ φ s Q (.ref s.heap.objs.size) ⟨s.heap.push o, g, d, t, os⟩ :=
  ⟨ρ, φ, H, v, ext_push R o, R.push o hg ho, hv (ext_push (F := []) R o).w (R.fresh (Nat.le_refl _)), q⟩
theorem post_new (R : Rep C.B ρ φ H s) {o : Obj} {ao : AO} {Q : AV → List AO → Prop} {g : Array GenState} {d : Drawn} {t : Nat} {os : OsState} (hfree : o.isFreed = false)
    (hv : ExtW ρ φ s.heap (ρ ++ [s.heap.objs.size]) φ (s.heap.push o) → RO C.B (ρ ++ [s.heap.objs.size]) φ (s.heap.push o) ao s.heap.objs.size) (q : Q (.ref H.length) (H ++ [ao])) (hg : g = s.gens := by rfl) (ho : os = s.os := by rfl) :
    Post C ρ φ s Q (.ref s.heap.objs.size) ⟨s.heap.push o, g, d, t, os⟩ :=
  (R.new (g := g) (d := d) (t := t) (os := os) o ao hfree hv hg ho).elim fun X R' =>
  ⟨_, _, _, .ref H.length, X, R', .ref (by rw [← R.len, List.getElem?_append_right (Nat.le_refl _), Nat.sub_self]; rfl), q⟩
end
section
variable {B : Base} {ρ φ : List Addr} {h : Heap}
theorem RVs.length {xs : List AV} : ∀ {vs : List Value}, RVs B ρ φ h xs vs → xs.length = vs.length := by
  induction xs with
  | nil => intro vs x; cases x; rfl
  | cons a l ih => intro vs x; cases x with | cons hx hr => simp [ih hr]
theorem RVs.get {xs : List AV} : ∀ {vs : List Value} {i : Nat} {x : AV}, RVs B ρ φ h xs vs → xs[i]? = some x → ∃ v, vs[i]? = some v ∧ RV B ρ φ h x v := by
  induction xs with
  | nil => intro vs i x _ e; simp at e
  | cons a l ih =>
    intro vs i x r e
    cases r with
    | cons hx hr =>
      cases i with
      | zero => simp at e; subst e; exact ⟨_, rfl, hx⟩
      | succ i => simp at e; refine (ih hr e).elim fun v zz1 => zz1.elim fun q1 q2 => ?_; clear zz1; exact ⟨v, by simpa using q1, q2⟩
theorem RVs.get' {xs : List AV} : ∀ {vs : List Value} {i : Nat} {v : Value}, RVs B ρ φ h xs vs → vs[i]? = some v → ∃ x, xs[i]? = some x ∧ RV B ρ φ h x v := by
  induction xs with
  | nil => intro vs i v r e; cases r; simp at e
  | cons a l ih =>
    intro vs i x r e
    cases r with
    | cons hx hr =>
      cases i with
      | zero => simp at e; subst e; exact ⟨_, rfl, hx⟩
      | succ i => simp at e; refine (ih hr e).elim fun v zz1 => zz1.elim fun q1 q2 => ?_; clear zz1; exact ⟨v, by simpa using q1, q2⟩
theorem RVs.append {xs ys : List AV} : ∀ {vs us : List Value}, RVs B ρ φ h xs vs → RVs B ρ φ h ys us → RVs B ρ φ h (xs ++ ys) (vs ++ us) := by
  induction xs with
  | nil => intro vs us a b; cases a; exact b
  | cons x l ih => intro vs us a b; cases a with | cons hx hr => exact .cons hx (ih hr b)
theorem RVs.of_get {xs : List AV} : ∀ {vs : List Value}, xs.length = vs.length → (∀ (i : Nat) x v, xs[i]? = some x → vs[i]? = some v → RV B ρ φ h x v) → RVs B ρ φ h xs vs := by
  induction xs with
  | nil => intro vs e _; cases vs with
    | nil => exact .nil
    | cons _ _ => cases e
  | cons a l ih => intro vs e k; cases vs with
    | nil => cases e
    | cons v r => exact .cons (k 0 a v rfl rfl) (ih (by simpa using e) fun i x u q1 q2 => k (i + 1) x u (by simpa using q1) (by simpa using q2))
theorem RVs.take {xs : List AV} (n : Nat) : ∀ {vs : List Value}, RVs B ρ φ h xs vs → RVs B ρ φ h (xs.take n) (vs.take n) := by
  induction xs generalizing n with
  | nil => intro vs x; cases x; simp; exact .nil
  | cons a l ih => intro vs x; cases x with | cons hx hr => cases n with
    | zero => exact .nil
    | succ n => exact .cons hx (ih n hr)
theorem RVs.drop {xs : List AV} (n : Nat) : ∀ {vs : List Value}, RVs B ρ φ h xs vs → RVs B ρ φ h (xs.drop n) (vs.drop n) := by
  induction xs generalizing n with
  | nil => intro vs x; cases x; simp; exact .nil
  | cons a l ih => intro vs x; cases x with | cons hx hr => cases n with
    | zero => exact .cons hx hr
    | succ n => exact ih n hr
theorem RVs.set {xs : List AV} {x : AV} {v : Value} (hv : RV B ρ φ h x v) : ∀ {i : Nat} {vs : List Value}, RVs B ρ φ h xs vs → RVs B ρ φ h (xs.set i x) (vs.set i v) := by
  induction xs with
  | nil => intro i vs r; cases r; simp; exact .nil
  | cons a l ih => intro i vs r; cases r with | cons hx hr => cases i with
    | zero => exact .cons hv hr
    | succ i => exact .cons hx (ih hr)
end
end
section
theorem sz_ok {n : Nat} (h : n ≤ 16777216) : n ≤ sizeLine := by rw [sizeLine_eq]; exact h
section
variable {C : Cx} {sc : Scope} {vars : Vars} {H : List AO}
noncomputable def ET (C : Cx) (sc : Scope) (vars : Vars) (H : List AO) (e : Expr) (Q : Bool → List AO → Prop) : Prop :=
  ∀ (A : Around) (env : Env) (ρ φ : List Addr) (s : Shared), AOk C.d A → EnvOk sc env → Rep C.B ρ φ H s → RVars C.B ρ φ env vars s.heap →
    wpAny (model C.B.prog C.B.w) A (isTrue e env (eval e env)) (PostB C ρ φ s Q) noE s
theorem EV.mono {e : Expr} {Q Q' : AV → List AO → Prop} (h : EV C sc vars H e Q) (k : ∀ v H, Q v H → Q' v H) : EV C sc vars H e Q' :=
  fun A env ρ φ s a b c r => wpAny_mono (h A env ρ φ s a b c r) (fun _ _ zz1 => zz1.elim fun ρ' φ' H' v' X R x q => ⟨ρ', φ', H', v', X, R, x, k _ _ q⟩) fun _ _ x => x
theorem ET.mono {e : Expr} {Q Q' : Bool → List AO → Prop} (h : ET C sc vars H e Q) (k : ∀ v H, Q v H → Q' v H) : ET C sc vars H e Q' :=
  fun A env ρ φ s a b c r => wpAny_mono (h A env ρ φ s a b c r) (fun _ _ zz1 => zz1.elim fun ρ' φ' H' X R q => ⟨ρ', φ', H', X, R, k _ _ q⟩) fun _ _ x => x
noncomputable def isVar (sc : Scope) (x : Str) : Bool := match sc.names.lookup x with
  | some .local => true
  | some .cell => true
  | some .free => x != ("__classdict__" : Str)
  | _ => false
theorem EV_var {x : String} {pos : Pos} {v : AV} {Q : AV → List AO → Prop} (hx : isVar sc (Str.ofString x) = true) (hd : (Str.ofString x == ("__debug__" : Str)) = false) (hv : vars.lookup x = some v) (q : Q v H) :
    EV C sc vars H (.Name (Str.ofString x) pos) Q := fun A env ρ φ s hA hE R V => by
  refine wpAny_Name ?_ hd
  unfold isVar at hx
  split at hx
  · rename_i e
    refine V.loc.elim fun m zz1 => zz1.elim fun hn hm => ?_; clear zz1
    refine (hm x v hv ((hE.kindOf _).trans e)).elim fun c zz1 => zz1.elim fun hc hr => ?_; clear zz1
    exact wpAny_loadName_local hE.kind' ((hE.kindOf _).trans e) hn hc (post_pure R hr q)
  · rename_i e
    refine (V.cells x v hv (.inl ((hE.kindOf _).trans e))).elim fun a zz1 => zz1.elim fun c zz2 => zz2.elim fun h1 zz3 => zz3.elim fun h2 h3 => ?_; clear zz3 zz2 zz1
    exact wpAny_loadName_cell hE.kind' ((hE.kindOf _).trans e) h1 h2 (post_pure R h3 q)
  · rename_i e
    refine (V.cells x v hv (.inr ((hE.kindOf _).trans e))).elim fun a zz1 => zz1.elim fun c zz2 => zz2.elim fun h1 zz3 => zz3.elim fun h2 h3 => ?_; clear zz3 zz2 zz1
    exact wpAny_loadName_free hE.kind' ((hE.kindOf _).trans e) h1 h2 (post_pure R h3 q) (by simpa using hx)
  · cases hx
inductive GlobIs (B : Base) : Value → AV → Prop
  | int {i t} : GlobIs B (.int i t) (.int i)
  | ref {a} (h : (B.K.lookup a).isSome = true) : GlobIs B (.ref a) (.val (.ref a))
  | ty {n} : GlobIs B (.type n) (.val (.type n))
  | bi {n} : GlobIs B (.builtin n) (.val (.builtin n))
theorem GlobIs.rv {B : Base} {v : Value} {a : AV} {ρ φ : List Addr} {h : Heap} (O : B.Ok) (g : GlobIs B v a) : RV B ρ φ h a v := by
  cases g with
  | int => exact .int _ _
  | ref hk =>
    rename_i a
    refine (Option.isSome_iff_exists.mp hk).elim fun o e => ?_
    refine .val fun b q => ?_
    cases q
    rw [O.inK _ _ e]; simp
  | ty => exact .val fun _ q => by cases q
  | bi => exact .val fun _ q => by cases q
theorem EV_glob {x : Str} {pos : Pos} {v : Value} {a : AV} {Q : AV → List AO → Prop} (O : C.B.Ok) (hx : sc.names.lookup x = some .globalImplicit) (hd : (x == ("__debug__" : Str)) = false)
    (hn : nsIn C.B.K mainGlobals x = some (some v)) (g : GlobIs C.B v a) (q : Q a H) : EV C sc vars H (.Name x pos) Q := fun A env ρ φ s hA hE R V =>
  Name_function_global hE.kind' ((hE.kindOf _).trans hx) (loadGlobal_global (mg := C.B.mg) (by rw [hE.globals]; exact O.g.keeps R.base) (mg_of O.inK O.g hn) (post_pure R (g.rv O) q)) hd
theorem EV_bi {x : Str} {pos : Pos} {v : Value} {a : AV} {Q : AV → List AO → Prop} (O : C.B.Ok) (hx : sc.names.lookup x = some .globalImplicit) (hd : (x == ("__debug__" : Str)) = false)
    (hn : nsIn C.B.K mainGlobals x = some none) (hb : bootBuiltins x = some v) (hm : x ≠ ("__name__" : Str)) (g : GlobIs C.B v a) (q : Q a H) : EV C sc vars H (.Name x pos) Q := fun A env ρ φ s hA hE R V =>
  Name_function_global hE.kind' ((hE.kindOf _).trans hx) (loadGlobal_builtin (mg := C.B.mg) (mb := C.B.mb) (by rw [hE.globals]; exact O.g.keeps R.base) (mg_none_of O.inK O.g hn)
    (by rw [hE.builtins]; exact O.b.keeps R.base) ((O.builtins x hm).trans hb) (post_pure R (g.rv O) q)) hd
theorem EV_int {i : Int} {k : Nat} {pos : Pos} {Q : AV → List AO → Prop} (q : Q (.int i) H) : EV C sc vars H (.Constant (.int i) k pos) Q := fun A env ρ φ s hA hE R V =>
  wpAny_Constant_int (post_toks R (.int _ _) q)
theorem EV_str {x : Str} {l : List Nat} {k : Nat} {pos : Pos} {Q : AV → List AO → Prop} (e : x = sOf l) (q : Q (.str l) H) : EV C sc vars H (.Constant (.str x) k pos) Q := fun A env ρ φ s hA hE R V =>
  Constant_str (post_toks R (e ▸ .str _ _) q)
theorem EV_bool {b : Bool} {k : Nat} {pos : Pos} {Q : AV → List AO → Prop} (q : Q (.bool b) H) : EV C sc vars H (.Constant (.bool b) k pos) Q := fun A env ρ φ s hA hE R V =>
  wpAny_Constant_bool (post_pure R (.bool _) q)
@[reducible] noncomputable def op2K (C : Cx) (a : AV) (F : Value → Value → Sem Value) (Q : AV → List AO → Prop) : AV → List AO → Prop := fun b H2 => OP2 C H2 a b F Q
@[reducible] noncomputable def binK (C : Cx) (sc : Scope) (vars : Vars) (r : Expr) (F : Value → Value → Sem Value) (Q : AV → List AO → Prop) : AV → List AO → Prop := fun a H1 => EV C sc vars H1 r (op2K C a F Q)
@[reducible] noncomputable def boolK (Q : Bool → List AO → Prop) : AV → List AO → Prop := fun v H3 => ∃ c, v = .bool c ∧ Q c H3
@[reducible] noncomputable def notK (Q : Bool → List AO → Prop) : Bool → List AO → Prop := fun b H1 => Q (!b) H1
@[reducible] noncomputable def ifeK (C : Cx) (sc : Scope) (vars : Vars) (x y : Expr) (Q : AV → List AO → Prop) : Bool → List AO → Prop := fun b H1 => if b = true then EV C sc vars H1 x Q else EV C sc vars H1 y Q
theorem EV_bin {l r : Expr} {op : Operator} {pos : Pos} {Q : AV → List AO → Prop} (h : EV C sc vars H l (binK C sc vars r (binaryOp op) Q)) :
    EV C sc vars H (.BinOp l op r pos) Q := fun A env ρ φ s hA hE R V =>
  wpAny_BinOp (wpAny_mono (h A env ρ φ s hA hE R V) (fun a s1 zz1 => zz1.elim fun ρ1 φ1 H1 a' X1 R1 ra q1 =>
    wpAny_mono (q1 A env ρ1 φ1 s1 hA hE R1 (V.ext X1)) (fun b s2 zz1 => zz1.elim fun ρ2 φ2 H2 b' X2 R2 rb q2 =>
      wpAny_mono (q2 A ρ2 φ2 s2 a b hA R2 (ra.ext X2.w) rb) (fun v s3 p => (p.ext (X1.trans X2))) fun _ _ x => x) fun _ _ x => x) fun _ _ x => x)
theorem EV_cmp {l r : Expr} {op : CmpOp} {pos : Pos} {Q : AV → List AO → Prop} (hb : behindInMarks op r = false) (h : EV C sc vars H l (binK C sc vars r (compareOp op) Q)) :
    EV C sc vars H (.Compare l [op] [r] pos) Q := fun A env ρ φ s hA hE R V =>
  wpAny_Compare1 (wpAny_mono (h A env ρ φ s hA hE R V) (fun a s1 zz1 => zz1.elim fun ρ1 φ1 H1 a' X1 R1 ra q1 =>
    wpAny_mono (q1 A env ρ1 φ1 s1 hA hE R1 (V.ext X1)) (fun b s2 zz1 => zz1.elim fun ρ2 φ2 H2 b' X2 R2 rb q2 =>
      wpAny_mono (q2 A ρ2 φ2 s2 a b hA R2 (ra.ext X2.w) rb) (fun v s3 p => (p.ext (X1.trans X2))) fun _ _ x => x) fun _ _ x => x) fun _ _ x => x) hb
theorem ET_cmp {l r : Expr} {op : CmpOp} {pos : Pos} {Q : Bool → List AO → Prop} (hb : behindInMarks op r = false)
    (h : EV C sc vars H l (binK C sc vars r (compareOp op) (boolK Q))) :
    ET C sc vars H (.Compare l [op] [r] pos) Q := fun A env ρ φ s hA hE R V =>
  wpAny_isTrue_Compare1 (wpAny_mono (h A env ρ φ s hA hE R V) (fun a s1 zz1 => zz1.elim fun ρ1 φ1 H1 a' X1 R1 ra q1 =>
    wpAny_mono (q1 A env ρ1 φ1 s1 hA hE R1 (V.ext X1)) (fun b s2 zz1 => zz1.elim fun ρ2 φ2 H2 b' X2 R2 rb q2 =>
      wpAny_mono (q2 A ρ2 φ2 s2 a b hA R2 (ra.ext X2.w) rb) (fun v s3 ⟨ρ3, φ3, H3, v', X3, R3, rv, c, e, q3⟩ => by
        subst e
        cases rv.inv
        exact wpAny_truthy_bool ⟨ρ3, φ3, H3, (X1.trans X2).trans X3, R3, q3⟩) fun _ _ x => x) fun _ _ x => x) fun _ _ x => x) hb
noncomputable def OPT (C : Cx) (H : List AO) (a : AV) (Q : Bool → Prop) : Prop :=
  ∀ (A : Around) (ρ φ : List Addr) (s : Shared) (x : Value), AOk C.d A → Rep C.B ρ φ H s → RV C.B ρ φ s.heap a x →
    wpAny (model C.B.prog C.B.w) A (truthy x) (PostT s Q) noE s
theorem OPT_bool {b : Bool} {Q : Bool → Prop} (q : Q b) : OPT C H (.bool b) Q := fun A ρ φ s x hA R r => by
  cases r.inv; exact wpAny_truthy_bool ⟨s.toks, rfl, q⟩
@[reducible] noncomputable def optK (C : Cx) (Q : Bool → List AO → Prop) : AV → List AO → Prop := fun v H1 => OPT C H1 v fun b => Q b H1
theorem ET_val {e : Expr} {Q : Bool → List AO → Prop} (hs : ∀ env whole, isTrue e env whole = (do let v ← whole; standAt e.pos; holding [v] (truthy v))) (h : EV C sc vars H e (optK C Q)) : ET C sc vars H e Q := fun A env ρ φ s hA hE R V =>
  wpAny_isTrue_value (wpAny_mono (h A env ρ φ s hA hE R V) (fun v s1 zz1 => zz1.elim fun ρ1 φ1 H1 v' X1 R1 rv q1 => wpAny_mono (q1 A ρ1 φ1 s1 v hA R1 rv) (fun b s2 zz1 => zz1.elim fun tk e2 q2 => by
    subst e2; exact ⟨ρ1, φ1, H1, X1, R1.toks _, q2⟩) fun _ _ x => x) fun _ _ x => x) (hs _ _)
theorem ET_not {e : Expr} {pos : Pos} {Q : Bool → List AO → Prop} (h : ET C sc vars H e (notK Q)) : ET C sc vars H (.UnaryOp .Not e pos) Q := fun A env ρ φ s hA hE R V =>
  wpAny_isTrue_Not (wpAny_mono (h A env ρ φ s hA hE R V) (fun _ _ zz1 => zz1.elim fun ρ1 φ1 H1 X1 R1 q => ⟨ρ1, φ1, H1, X1, R1, q⟩) fun _ _ x => x)
noncomputable def ETs (C : Cx) (sc : Scope) (vars : Vars) (H : List AO) (op : BoolOp) (es : List Expr) (Q : Bool → List AO → Prop) : Prop :=
  ∀ (A : Around) (env : Env) (ρ φ : List Addr) (s : Shared), AOk C.d A → EnvOk sc env → Rep C.B ρ φ H s → RVars C.B ρ φ env vars s.heap →
    wpAny (model C.B.prog C.B.w) A (allTrue op es env) (PostB C ρ φ s Q) noE s
theorem ETs_nil {Q : Bool → List AO → Prop} (q : Q true H) : ETs C sc vars H .And [] Q := fun A env ρ φ s hA hE R V => wpAny_allTrue_And_nil ⟨ρ, φ, H, Ext.refl _ _ _ _, R, q⟩
theorem ETs_onil {Q : Bool → List AO → Prop} (q : Q false H) : ETs C sc vars H .Or [] Q := fun A env ρ φ s hA hE R V => by
  show wpAny _ _ (pure (BoolOp.Or == BoolOp.And)) _ _ _
  exact wpAny_pure ⟨ρ, φ, H, Ext.refl _ _ _ _, R, q⟩
@[reducible] noncomputable def andsK (C : Cx) (sc : Scope) (vars : Vars) (es : List Expr) (Q : Bool → List AO → Prop) : Bool → List AO → Prop := fun b H1 => if b = true then ETs C sc vars H1 .And es Q else Q false H1
@[reducible] noncomputable def orsK (C : Cx) (sc : Scope) (vars : Vars) (es : List Expr) (Q : Bool → List AO → Prop) : Bool → List AO → Prop := fun b H1 => if b = true then Q true H1 else ETs C sc vars H1 .Or es Q
theorem ETs_cons {e : Expr} {es : List Expr} {Q : Bool → List AO → Prop} (h : ET C sc vars H e (andsK C sc vars es Q)) : ETs C sc vars H .And (e :: es) Q := fun A env ρ φ s hA hE R V =>
  wpAny_allTrue_And_cons (wpAny_mono (h A env ρ φ s hA hE R V) (fun b s1 zz1 => zz1.elim fun ρ1 φ1 H1 X1 R1 q1 => by
    cases b with
    | true => exact wpAny_mono (q1 A env ρ1 φ1 s1 hA hE R1 (V.ext X1)) (fun b s2 zz1 => zz1.elim fun ρ2 φ2 H2 X2 R2 q2 => ⟨ρ2, φ2, H2, X1.trans X2, R2, q2⟩) fun _ _ x => x
    | false => exact ⟨ρ1, φ1, H1, X1, R1, q1⟩) fun _ _ x => x)
theorem ETs_ocons {e : Expr} {es : List Expr} {Q : Bool → List AO → Prop} (h : ET C sc vars H e (orsK C sc vars es Q)) : ETs C sc vars H .Or (e :: es) Q := fun A env ρ φ s hA hE R V =>
  wpAny_allTrue_Or_cons (wpAny_mono (h A env ρ φ s hA hE R V) (fun b s1 zz1 => zz1.elim fun ρ1 φ1 H1 X1 R1 q1 => by
    cases b with
    | false => exact wpAny_mono (q1 A env ρ1 φ1 s1 hA hE R1 (V.ext X1)) (fun b s2 zz1 => zz1.elim fun ρ2 φ2 H2 X2 R2 q2 => ⟨ρ2, φ2, H2, X1.trans X2, R2, q2⟩) fun _ _ x => x
    | true => exact ⟨ρ1, φ1, H1, X1, R1, q1⟩) fun _ _ x => x)
theorem ET_bool {op : BoolOp} {es : List Expr} {pos : Pos} {Q : Bool → List AO → Prop} (h : ETs C sc vars H op es Q) : ET C sc vars H (.BoolOp op es pos) Q := fun A env ρ φ s hA hE R V =>
  wpAny_isTrue_BoolOp (h A env ρ φ s hA hE R V)
theorem EV_and {x y : Expr} {pos : Pos} {Q : AV → List AO → Prop} (h : EV C sc vars H x fun v H1 => OPT C H1 v fun b => if b = true then EV C sc vars H1 y Q else Q v H1) : EV C sc vars H (.BoolOp .And [x, y] pos) Q := fun A env ρ φ s hA hE R V =>
  wpAny_And2 (wpAny_mono (h A env ρ φ s hA hE R V) (fun v s1 zz1 => zz1.elim fun ρ1 φ1 H1 v' X1 R1 rv q1 => wpAny_mono (q1 A ρ1 φ1 s1 v hA R1 rv) (fun b s2 zz1 => zz1.elim fun tk e2 q2 => by
    subst e2
    cases b with
    | true => exact wpAny_mono (q2 A env ρ1 φ1 _ hA hE (R1.toks _) (V.ext X1)) (fun v s3 p => p.ext (s' := { s1 with toks := tk }) X1) fun _ _ x => x
    | false => exact ⟨ρ1, φ1, H1, v', X1, R1.toks _, rv, q2⟩) fun _ _ x => x) fun _ _ x => x)
theorem EV_ifexp {t x y : Expr} {pos : Pos} {Q : AV → List AO → Prop} (h : ET C sc vars H t (ifeK C sc vars x y Q)) : EV C sc vars H (.IfExp t x y pos) Q := fun A env ρ φ s hA hE R V =>
  wpAny_IfExp (wpAny_mono (h A env ρ φ s hA hE R V) (fun b s1 zz1 => zz1.elim fun ρ1 φ1 H1 X1 R1 q1 => by
    cases b with
    | true => exact wpAny_mono (q1 A env ρ1 φ1 s1 hA hE R1 (V.ext X1)) (fun v s2 p => p.ext X1) fun _ _ x => x
    | false => exact wpAny_mono (q1 A env ρ1 φ1 s1 hA hE R1 (V.ext X1)) (fun v s2 p => p.ext X1) fun _ _ x => x) fun _ _ x => x)
theorem EV_neg {e : Expr} {pos : Pos} {i : Int} {Q : AV → List AO → Prop} (h : EV C sc vars H e fun v H1 => ∃ i, v = .int i ∧ Q (.int (-i)) H1) : EV C sc vars H (.UnaryOp .USub e pos) Q := fun A env ρ φ s hA hE R V =>
  wpAny_UnaryOp (wpAny_mono (h A env ρ φ s hA hE R V) (fun v s1 ⟨ρ1, φ1, H1, v', X1, R1, rv, i, e, q1⟩ => by
    subst e; cases rv.inv
    exact neg_int ⟨ρ1, φ1, H1, _, X1, R1.toks _, .int _ _, q1⟩) fun _ _ x => x)
theorem OP_add {a b : Int} {Q : AV → List AO → Prop} (q : Q (.int (a + b)) H) : OP2 C H (.int a) (.int b) (binaryOp .Add) Q := fun A ρ φ s x y hA R rx ry => by
  cases rx.inv; cases ry.inv; exact add_int (post_toks R (.int _ _) q)
theorem OP_sub {a b : Int} {Q : AV → List AO → Prop} (q : Q (.int (a - b)) H) : OP2 C H (.int a) (.int b) (binaryOp .Sub) Q := fun A ρ φ s x y hA R rx ry => by
  cases rx.inv; cases ry.inv; exact sub_int (post_toks R (.int _ _) q)
theorem intMulOk_small {a b : Int} (h : a.natAbs < 2 ^ 64) : IntMulOk a b := by
  have : Builtin.Int.intBits a ≤ shortFactorBits := by
    unfold Builtin.Int.intBits shortFactorBits
    split
    · omega
    · rename_i h0
      have := (Nat.log2_lt (show a.natAbs ≠ 0 by simpa using h0)).mpr h
      omega
  unfold IntMulOk
  simp [Nat.not_lt.mpr this]
theorem intMulOk_small' {a b : Int} (h : b.natAbs < 2 ^ 64) : IntMulOk a b := by
  have : Builtin.Int.intBits b ≤ shortFactorBits := by
    unfold Builtin.Int.intBits shortFactorBits
    split
    · omega
    · rename_i h0
      have := (Nat.log2_lt (show b.natAbs ≠ 0 by simpa using h0)).mpr h
      omega
  unfold IntMulOk
  simp [Nat.not_lt.mpr this]
theorem OP_mul {a b : Int} {Q : AV → List AO → Prop} (h : a.natAbs < 2 ^ 64 ∨ b.natAbs < 2 ^ 64) (q : Q (.int (a * b)) H) : OP2 C H (.int a) (.int b) (binaryOp .Mult) Q := fun A ρ φ s x y hA R rx ry => by
  cases rx.inv; cases ry.inv; exact mul_int (post_toks R (.int _ _) q) (h.elim intMulOk_small intMulOk_small')
theorem OP_mod {a b : Int} {Q : AV → List AO → Prop} (h : b ≠ 0) (q : Q (.int (a.fmod b)) H) : OP2 C H (.int a) (.int b) (binaryOp .Mod) Q := fun A ρ φ s x y hA R rx ry => by
  cases rx.inv; cases ry.inv; exact mod_int' h (post_toks R (.int _ _) q)
theorem OP_div {a b : Int} {Q : AV → List AO → Prop} (h : b ≠ 0) (hp : Builtin.divisionGoesByPylong a b = false) (q : Q (.int (a.fdiv b)) H) : OP2 C H (.int a) (.int b) (binaryOp .FloorDiv) Q := fun A ρ φ s x y hA R rx ry => by
  cases rx.inv; cases ry.inv; exact floordiv_int h (post_toks R (.int _ _) q) (.inl hp)
theorem OP_pow {a n : Int} {Q : AV → List AO → Prop} (h : 0 ≤ n) (hb : (Builtin.Int.intBits a : Int) * n ≤ 2 ^ 27) (q : Q (.int (a ^ n.toNat)) H) : OP2 C H (.int a) (.int n) (binaryOp .Pow) Q := fun A ρ φ s x y hA R rx ry => by
  cases rx.inv; cases ry.inv; exact pow_int h hb (post_toks R (.int _ _) q)
theorem OP_lt {a b : Int} {Q : AV → List AO → Prop} (q : Q (.bool (decide (a < b))) H) : OP2 C H (.int a) (.int b) (compareOp .Lt) Q := fun A ρ φ s x y hA R rx ry => by
  cases rx.inv; cases ry.inv; exact lt_int (post_pure R (.bool _) q)
theorem OP_le {a b : Int} {Q : AV → List AO → Prop} (q : Q (.bool (decide (a ≤ b))) H) : OP2 C H (.int a) (.int b) (compareOp .LtE) Q := fun A ρ φ s x y hA R rx ry => by
  cases rx.inv; cases ry.inv; exact le_int (post_pure R (.bool _) q)
theorem OP_gt {a b : Int} {Q : AV → List AO → Prop} (q : Q (.bool (decide (b < a))) H) : OP2 C H (.int a) (.int b) (compareOp .Gt) Q := fun A ρ φ s x y hA R rx ry => by
  cases rx.inv; cases ry.inv; exact gt_int (post_pure R (.bool _) q)
theorem OP_ge {a b : Int} {Q : AV → List AO → Prop} (q : Q (.bool (decide (b ≤ a))) H) : OP2 C H (.int a) (.int b) (compareOp .GtE) Q := fun A ρ φ s x y hA R rx ry => by
  cases rx.inv; cases ry.inv; exact ge_int (post_pure R (.bool _) q)
theorem OP_eqi {a b : Int} {Q : AV → List AO → Prop} (q : Q (.bool (a == b)) H) : OP2 C H (.int a) (.int b) (compareOp .Eq) Q := fun A ρ φ s x y hA R rx ry => by
  cases rx.inv; cases ry.inv; exact eq_int (post_pure R (.bool _) q)
theorem OP_nei {a b : Int} {Q : AV → List AO → Prop} (q : Q (.bool (a != b)) H) : OP2 C H (.int a) (.int b) (compareOp .NotEq) Q := fun A ρ φ s x y hA R rx ry => by
  cases rx.inv; cases ry.inv; exact ne_int (post_pure R (.bool _) q)
theorem sOf_append (l m : List Nat) : (sOf l : Str) ++ sOf m = sOf (l ++ m) := by
  show Str.append _ _ = _
  unfold Str.append sOf
  simp
theorem OP_cat {a b : List Nat} {Q : AV → List AO → Prop} (h : a.length + b.length ≤ 16777216) (q : Q (.str (a ++ b)) H) : OP2 C H (.str a) (.str b) (binaryOp .Add) Q := fun A ρ φ s x y hA R rx ry => by
  cases rx.inv; cases ry.inv
  exact add_str (fun t' tk => by rw [sOf_append]; exact ⟨ρ, φ, H, _, Ext.refl _ _ _ _, R.anyToks, .str _ _, q⟩) (by show a.toArray.size + b.toArray.size ≤ _; simp only [List.size_toArray]; exact sz_ok h)
end
end
section
inductive AF where
  | next | brk | cont
  | ret (v : AV)
inductive RF (B : Base) (ρ φ : List Addr) (h : Heap) : AF → Flow → Prop
  | next : RF B ρ φ h .next .next
  | brk : RF B ρ φ h .brk .brk
  | cont : RF B ρ φ h .cont .cont
  | ret {v c} (hv : RV B ρ φ h v c) : RF B ρ φ h (.ret v) (.ret c)
structure ExtP (P : Str → Prop) (env : Env) (F : List Nat) (ρ φ : List Addr) (h : Heap) (ρ' φ' : List Addr) (h' : Heap) : Prop where
  pre : ρ <+: ρ'
  keep : ∀ a o, h.get? a = some o → a ∉ ρ → a ≠ env.locals → (∀ x, P x → env.cells.lookup x = some a → a ∉ φ) → h'.get? a = some o ∧ a ∉ ρ' ∧ (a ∉ φ → a ∉ φ')
  sub : ∀ a ∈ φ, a ∈ φ'
  held : ∀ (i : Nat) a, i ∈ F → ρ[i]? = some a → h'.get? a = h.get? a
noncomputable abbrev ExtS (env : Env) (F : List Nat) (ρ φ : List Addr) (h : Heap) (ρ' φ' : List Addr) (h' : Heap) : Prop := ExtP (fun _ => True) env F ρ φ h ρ' φ' h'
theorem Ext.p {P : Str → Prop} {env : Env} {F : List Nat} {ρ φ ρ' φ' : List Addr} {h h' : Heap} (x : Ext F ρ φ h ρ' φ' h') : ExtP P env F ρ φ h ρ' φ' h' := ⟨x.pre, fun a o e n _ _ => x.keep a o e n, x.sub, x.held⟩
theorem Ext.s {env : Env} {F : List Nat} {ρ φ ρ' φ' : List Addr} {h h' : Heap} (x : Ext F ρ φ h ρ' φ' h') : ExtS env F ρ φ h ρ' φ' h' := x.p
theorem ExtP.refl (P : Str → Prop) (env : Env) (F : List Nat) (ρ φ : List Addr) (h : Heap) : ExtP P env F ρ φ h ρ φ h := (Ext.refl F ρ φ h).p
theorem ExtS.refl (env : Env) (F : List Nat) (ρ φ : List Addr) (h : Heap) : ExtS env F ρ φ h ρ φ h := (Ext.refl F ρ φ h).s
theorem ExtP.trans {P : Str → Prop} {env : Env} {F : List Nat} {ρ φ ρ' φ' ρ'' φ'' : List Addr} {h h' h'' : Heap} (x : ExtP P env F ρ φ h ρ' φ' h') (y : ExtP P env F ρ' φ' h' ρ'' φ'' h'') : ExtP P env F ρ φ h ρ'' φ'' h'' :=
  ⟨x.pre.trans y.pre, fun a o e n n1 n2 => (x.keep a o e n n1 n2).elim fun e' zz1 => zz1.elim fun n' m' => (y.keep a o e' n' n1 fun x p q => m' (n2 x p q)).elim fun e'' zz1 => zz1.elim fun n'' m'' => ⟨e'', n'', fun q => m'' (m' q)⟩, fun a q => y.sub a (x.sub a q),
    fun i a hi e => (y.held i a hi (getρ_of x.pre e)).trans (x.held i a hi e)⟩
theorem ExtP.mono {P P' : Str → Prop} {env : Env} {F : List Nat} {ρ φ ρ' φ' : List Addr} {h h' : Heap} (x : ExtP P env F ρ φ h ρ' φ' h') (k : ∀ x, P x → P' x) : ExtP P' env F ρ φ h ρ' φ' h' := ⟨x.pre, fun a o e n n1 n2 => x.keep a o e n n1 fun y p q => n2 y (k y p) q, x.sub, x.held⟩
theorem ExtP.all {P : Str → Prop} {env : Env} {F : List Nat} {ρ φ ρ' φ' : List Addr} {h h' : Heap} (x : ExtP P env F ρ φ h ρ' φ' h') : ExtS env F ρ φ h ρ' φ' h' := x.mono fun _ _ => trivial
noncomputable def CellOwn (φ : List Addr) (env : Env) : Prop := ∀ x a, env.cells.lookup x = some a → a ∈ φ
inductive PostP (P : Str → Prop) (C : Cx) (env : Env) (ρ φ : List Addr) (s : Shared) (Q : Vars → List AO → Prop) (s' : Shared) : Prop
  | mk (ρ' φ' : List Addr) (H' : List AO) (vars' : Vars) (X : ExtP P env C.F ρ φ s.heap ρ' φ' s'.heap) (R : Rep C.B ρ' φ' H' s') (V : RVars C.B ρ' φ' env vars' s'.heap) (q : Q vars' H')
theorem PostP.elim {P : Str → Prop} {C : Cx} {env : Env} {ρ φ : List Addr} {s : Shared} {Q : Vars → List AO → Prop} {s' : Shared} {goal : Prop} (it0 : PostP P C env ρ φ s Q s') (k : ∀ (ρ' φ' : List Addr) (H' : List AO) (vars' : Vars) (X : ExtP P env C.F ρ φ s.heap ρ' φ' s'.heap) (R : Rep C.B ρ' φ' H' s') (V : RVars C.B ρ' φ' env vars' s'.heap) (q : Q vars' H'), goal) : goal := PostP.rec (motive := fun _ => goal) k it0
inductive PostS (C : Cx) (env : Env) (ρ φ : List Addr) (s : Shared) (Q : AF → Vars → List AO → Prop) (f : Flow) (s' : Shared) : Prop
  | mk (ρ' φ' : List Addr) (H' : List AO) (vars' : Vars) (f' : AF) (X : ExtS env C.F ρ φ s.heap ρ' φ' s'.heap) (R : Rep C.B ρ' φ' H' s') (V : RVars C.B ρ' φ' env vars' s'.heap) (rf : RF C.B ρ' φ' s'.heap f' f) (q : Q f' vars' H')
theorem PostS.elim {C : Cx} {env : Env} {ρ φ : List Addr} {s : Shared} {Q : AF → Vars → List AO → Prop} {f : Flow} {s' : Shared} {goal : Prop} (it0 : PostS C env ρ φ s Q f s') (k : ∀ (ρ' φ' : List Addr) (H' : List AO) (vars' : Vars) (f' : AF) (X : ExtS env C.F ρ φ s.heap ρ' φ' s'.heap) (R : Rep C.B ρ' φ' H' s') (V : RVars C.B ρ' φ' env vars' s'.heap) (rf : RF C.B ρ' φ' s'.heap f' f) (q : Q f' vars' H'), goal) : goal := PostS.rec (motive := fun _ => goal) k it0
theorem PostP.ext {P : Str → Prop} {C : Cx} {env : Env} {ρ φ ρ' φ' : List Addr} {s s' t : Shared} {Q : Vars → List AO → Prop} (X : ExtP P env C.F ρ φ s.heap ρ' φ' s'.heap) (p : PostP P C env ρ' φ' s' Q t) : PostP P C env ρ φ s Q t :=
  p.elim fun ρ'' φ'' H' v' X' R V q => ⟨ρ'', φ'', H', v', X.trans X', R, V, q⟩
theorem PostS.ext {C : Cx} {env : Env} {ρ φ ρ' φ' : List Addr} {s s' t : Shared} {Q : AF → Vars → List AO → Prop} {f : Flow} (X : ExtS env C.F ρ φ s.heap ρ' φ' s'.heap) (p : PostS C env ρ' φ' s' Q f t) : PostS C env ρ φ s Q f t :=
  p.elim fun ρ'' φ'' H' v' f' X' R V rf q => ⟨ρ'', φ'', H', v', f', X.trans X', R, V, rf, q⟩
noncomputable def EX (C : Cx) (sc : Scope) (vars : Vars) (H : List AO) (st : Stmt) (Q : AF → Vars → List AO → Prop) : Prop :=
  ∀ (A : Around) (env : Env) (ρ φ : List Addr) (s : Shared), AOk C.d A → EnvOk sc env → Rep C.B ρ φ H s → RVars C.B ρ φ env vars s.heap → CellOwn φ env →
    wpAny (model C.B.prog C.B.w) A (exec st env) (PostS C env ρ φ s Q) noE s
noncomputable def EXs (C : Cx) (sc : Scope) (vars : Vars) (H : List AO) (st : List Stmt) (Q : AF → Vars → List AO → Prop) : Prop :=
  ∀ (A : Around) (env : Env) (ρ φ : List Addr) (s : Shared), AOk C.d A → EnvOk sc env → Rep C.B ρ φ H s → RVars C.B ρ φ env vars s.heap → CellOwn φ env →
    wpAny (model C.B.prog C.B.w) A (execs st env) (PostS C env ρ φ s Q) noE s
inductive Tgt : Str → Expr → Prop
  | name {x p} : Tgt x (.Name x p)
  | tup {x t ts k p} (h : t ∈ ts) (r : Tgt x t) : Tgt x (.Tuple ts k p)
noncomputable def TOwn (φ : List Addr) (env : Env) (t : Expr) : Prop := ∀ x a, Tgt x t → env.cells.lookup x = some a → a ∈ φ
theorem CellOwn.t {φ : List Addr} {env : Env} {t : Expr} (O : CellOwn φ env) : TOwn φ env t := fun x a _ e => O x a e
noncomputable def AS (C : Cx) (sc : Scope) (vars : Vars) (H : List AO) (t : Expr) (v : AV) (Q : Vars → List AO → Prop) : Prop :=
  ∀ (A : Around) (env : Env) (ρ φ : List Addr) (s : Shared) (c : Value), AOk C.d A → EnvOk sc env → Rep C.B ρ φ H s → RVars C.B ρ φ env vars s.heap → TOwn φ env t → RV C.B ρ φ s.heap v c →
    wpAny (model C.B.prog C.B.w) A (assign t env c) (fun _ => PostP (fun x => Tgt x t) C env ρ φ s Q) noE s
section
variable {C : Cx} {sc : Scope} {vars : Vars} {H : List AO}
theorem CellOwn.ext {env : Env} {F : List Nat} {ρ φ ρ' φ' : List Addr} {h h' : Heap} (k : CellOwn φ env) (X : ExtS env F ρ φ h ρ' φ' h') : CellOwn φ' env := fun x a e => X.sub a (k x a e)
theorem EX.mono {st : Stmt} {Q Q' : AF → Vars → List AO → Prop} (h : EX C sc vars H st Q) (k : ∀ f v H, Q f v H → Q' f v H) : EX C sc vars H st Q' :=
  fun A env ρ φ s a b c r o => wpAny_mono (h A env ρ φ s a b c r o) (fun _ _ zz1 => zz1.elim fun ρ' φ' H' v' f' X R x y q => ⟨ρ', φ', H', v', f', X, R, x, y, k _ _ _ q⟩) fun _ _ x => x
theorem EXs.mono {st : List Stmt} {Q Q' : AF → Vars → List AO → Prop} (h : EXs C sc vars H st Q) (k : ∀ f v H, Q f v H → Q' f v H) : EXs C sc vars H st Q' :=
  fun A env ρ φ s a b c r o => wpAny_mono (h A env ρ φ s a b c r o) (fun _ _ zz1 => zz1.elim fun ρ' φ' H' v' f' X R x y q => ⟨ρ', φ', H', v', f', X, R, x, y, k _ _ _ q⟩) fun _ _ x => x
theorem AS.mono {t : Expr} {v : AV} {Q Q' : Vars → List AO → Prop} (h : AS C sc vars H t v Q) (k : ∀ v H, Q v H → Q' v H) : AS C sc vars H t v Q' :=
  fun A env ρ φ s c a b e r o w => wpAny_mono (h A env ρ φ s c a b e r o w) (fun _ _ zz1 => zz1.elim fun ρ' φ' H' v' X R x q => ⟨ρ', φ', H', v', X, R, x, k _ _ q⟩) fun _ _ x => x
theorem EXs_nil {Q : AF → Vars → List AO → Prop} (q : Q .next vars H) : EXs C sc vars H [] Q := fun A env ρ φ s hA hE R V O => wpAny_execs_nil ⟨ρ, φ, H, vars, .next, ExtS.refl _ _ _ _ _, R, V, .next, q⟩
theorem EXs_cons {st : Stmt} {rest : List Stmt} {Q : AF → Vars → List AO → Prop} (h : EX C sc vars H st fun f v1 H1 => match f with | .next => EXs C sc v1 H1 rest Q | f => Q f v1 H1) : EXs C sc vars H (st :: rest) Q := fun A env ρ φ s hA hE R V O => by
  refine wpAny_execs_cons (wpAny_mono (h A env ρ φ s hA hE R V O) (fun f s1 zz1 => zz1.elim fun ρ1 φ1 H1 v1 f1 X1 R1 V1 rf q1 => ?_) fun _ _ x => x)
  cases rf with
  | next => exact wpAny_mono (q1 A env ρ1 φ1 s1 hA hE R1 V1 (O.ext X1)) (fun f s2 p => p.ext X1) fun _ _ x => x
  | brk => exact ⟨ρ1, φ1, H1, v1, .brk, X1, R1, V1, .brk, q1⟩
  | cont => exact ⟨ρ1, φ1, H1, v1, .cont, X1, R1, V1, .cont, q1⟩
  | ret hv => exact ⟨ρ1, φ1, H1, v1, .ret _, X1, R1, V1, .ret hv, q1⟩
@[reducible] noncomputable def retK (vars : Vars) (Q : AF → Vars → List AO → Prop) : AV → List AO → Prop := fun v H1 => Q (.ret v) vars H1
@[reducible] noncomputable def exprK (vars : Vars) (Q : AF → Vars → List AO → Prop) : AV → List AO → Prop := fun _ H1 => Q .next vars H1
@[reducible] noncomputable def asgK (x : String) (vars : Vars) (Q : AF → Vars → List AO → Prop) : AV → List AO → Prop := fun v H1 => Q .next (upd x v vars) H1
@[reducible] noncomputable def ifK (C : Cx) (sc : Scope) (vars : Vars) (x y : List Stmt) (Q : AF → Vars → List AO → Prop) : Bool → List AO → Prop := fun b H1 => if b = true then EXs C sc vars H1 x Q else EXs C sc vars H1 y Q
@[reducible] noncomputable def augK (C : Cx) (old : AV) (op : Operator) (x : String) (vars : Vars) (Q : AF → Vars → List AO → Prop) : AV → List AO → Prop := fun v H1 => OP2 C H1 old v (inplaceOp op) (asgK x vars Q)
@[reducible] noncomputable def nextK (Q : AF → Vars → List AO → Prop) : Vars → List AO → Prop := fun v2 H2 => Q .next v2 H2
@[reducible] noncomputable def toK (C : Cx) (sc : Scope) (vars : Vars) (t : Expr) (Q : AF → Vars → List AO → Prop) : AV → List AO → Prop := fun v H1 => AS C sc vars H1 t v (nextK Q)
theorem EX_ret {e : Expr} {pos : Pos} {Q : AF → Vars → List AO → Prop} (h : EV C sc vars H e (retK vars Q)) : EX C sc vars H (.Return (some e) pos) Q := fun A env ρ φ s hA hE R V O =>
  wpAny_Return_some (wpAny_mono (h A env ρ φ s hA hE R V) (fun v s1 zz1 => zz1.elim fun ρ1 φ1 H1 v1 X1 R1 rv q1 => ⟨ρ1, φ1, H1, vars, .ret v1, X1.s, R1, V.ext X1, .ret rv, q1⟩) fun _ _ x => x)
theorem EX_brk {pos : Pos} {Q : AF → Vars → List AO → Prop} (q : Q .brk vars H) : EX C sc vars H (.Break pos) Q := fun A env ρ φ s hA hE R V O => by
  show wpAny _ _ (standAt pos >>= fun _ => pure Flow.brk) _ _ _
  exact wpAny_bind (wpAny_standAt (wpAny_pure ⟨ρ, φ, H, vars, .brk, ExtS.refl _ _ _ _ _, R, V, .brk, q⟩))
theorem EX_cont {pos : Pos} {Q : AF → Vars → List AO → Prop} (q : Q .cont vars H) : EX C sc vars H (.Continue pos) Q := fun A env ρ φ s hA hE R V O => by
  show wpAny _ _ (standAt pos >>= fun _ => pure Flow.cont) _ _ _
  exact wpAny_bind (wpAny_standAt (wpAny_pure ⟨ρ, φ, H, vars, .cont, ExtS.refl _ _ _ _ _, R, V, .cont, q⟩))
theorem EX_if {t : Expr} {x y : List Stmt} {pos : Pos} {Q : AF → Vars → List AO → Prop} (h : ET C sc vars H t (ifK C sc vars x y Q)) : EX C sc vars H (.If t x y pos) Q := fun A env ρ φ s hA hE R V O =>
  wpAny_If (wpAny_mono (h A env ρ φ s hA hE R V) (fun b s1 zz1 => zz1.elim fun ρ1 φ1 H1 X1 R1 q1 => by
    cases b with
    | true => exact wpAny_mono (q1 A env ρ1 φ1 s1 hA hE R1 (V.ext X1) (O.ext (X1.s (env := env)))) (fun v s2 p => p.ext X1.s) fun _ _ x => x
    | false => exact wpAny_mono (q1 A env ρ1 φ1 s1 hA hE R1 (V.ext X1) (O.ext (X1.s (env := env)))) (fun v s2 p => p.ext X1.s) fun _ _ x => x) fun _ _ x => x)
theorem EX_expr {e : Expr} {pos : Pos} {Q : AF → Vars → List AO → Prop} (hsw : ∀ env, swapsWith e none pos.line env = pure false) (h : EV C sc vars H e (exprK vars Q)) : EX C sc vars H (.Expr e pos) Q := fun A env ρ φ s hA hE R V O =>
  wpAny_Expr_any (wpAny_mono (h A env ρ φ s hA hE R V) (fun v s1 zz1 => zz1.elim fun ρ1 φ1 H1 v1 X1 R1 rv q1 => ⟨ρ1, φ1, H1, vars, .next, X1.s, R1, V.ext X1, .next, q1⟩) fun _ _ x => x)
    (by unfold interactive; rw [hE.kind']; rfl) (hsw env)
noncomputable def isOwn (sc : Scope) (x : Str) : Bool := match sc.names.lookup x with
  | some .local => true
  | some .cell => true
  | _ => false
theorem store_ok {x : String} {v : AV} {Q : Vars → List AO → Prop} (hx : isOwn sc (Str.ofString x) = true) (q : Q (upd x v vars) H) {A : Around} {env : Env} {ρ φ : List Addr} {s : Shared} {c : Value} (hA : AOk C.d A) (hE : EnvOk sc env)
    (R : Rep C.B ρ φ H s) (V : RVars C.B ρ φ env vars s.heap) (O : ∀ a, env.cells.lookup (Str.ofString x) = some a → a ∈ φ) (hv : RV C.B ρ φ s.heap v c) : wpAny (model C.B.prog C.B.w) A (storeName env (Str.ofString x) c) (fun _ => PostP (fun y => y = Str.ofString x) C env ρ φ s Q) noE s := by
  have fin : ∀ {L : Addr} {h' : Heap} {t : Nat}, L ∈ φ → L ∉ ρ → (∃ ob, h'.get? L = some ob) → (L = env.locals ∨ env.cells.lookup (Str.ofString x) = some L) → Heap.SameBut L s.heap h' →
      ExtW ρ φ s.heap ρ φ h' ∧ Rep C.B ρ φ H { s with heap := h', toks := t } ∧ ExtP (fun y => y = Str.ofString x) env C.F ρ φ s.heap ρ φ h' := by
    intro L h' t hφ hρ hl hwh hs
    have W : ExtW ρ φ s.heap ρ φ h' := ⟨List.prefix_rfl, fun a o e n _ => ⟨(hs.2 a fun z => n.2 (z ▸ hφ)).trans e, n⟩⟩
    refine ⟨W, R.step (s' := { s with heap := h', toks := t }) W (fun a o e => (hs.2 a fun z => (R.baseNotin e).2 (z ▸ hφ)).trans (R.base a o e)) R.len R.nodup
      (fun i o a e1 e2 => .inl ⟨e1, e2, hs.2 a fun z => hρ (z ▸ List.mem_of_getElem? e2)⟩) (fun _ q => .inl q) R.disj (fun a q => ?_), ⟨List.prefix_rfl, fun a o e n n1 n2 => ⟨(hs.2 a fun z => ?_).trans e, n, id⟩, fun _ q => q,
      fun i a _ e => hs.2 a fun z => hρ (z ▸ List.mem_of_getElem? e)⟩⟩
    · by_cases z : a = L
      · subst z; exact hl
      · refine (R.alive a q).elim fun o e => ?_; exact ⟨o, (hs.2 a z).trans e⟩
    · rcases hwh with w | w
      · exact n1 (z.trans w)
      · exact n2 _ rfl (z ▸ w) (z ▸ hφ)
  unfold isOwn at hx
  split at hx
  · rename_i e
    have ek : env.kindOf (Str.ofString x) = some .local := (hE.kindOf _).trans e
    refine V.loc.elim fun m zz1 => zz1.elim fun hn hm => ?_; clear zz1
    refine wpAny_storeName_local ek hn (fun h' hn' hs => ?_) (by rw [hE.kind']; rfl)
    refine hn'.elim fun oL zz1 => zz1.elim fun esL zz2 => zz2.elim fun epL zz3 => zz3.elim fun eL zz4 => zz4.elim fun dL _ => ?_; clear zz4 zz3 zz2 zz1; (try clear hn')
    refine hn.elim fun oL0 zz1 => zz1.elim fun esL0 zz2 => zz2.elim fun epL0 zz3 => zz3.elim fun eL0 zz4 => zz4.elim fun dL0 _ => ?_; clear zz4 zz3 zz2 zz1; (try clear hn)
    refine (fin (t := s.toks + 1) V.locφ V.locn ⟨oL, eL⟩ (.inl rfl) hs).elim fun W zz1 => zz1.elim fun R' XS => ?_; clear zz1
    refine ⟨ρ, φ, H, upd x v vars, XS, R', ?_, q⟩
    have notL : ∀ {y a}, env.cells.lookup y = some a → a ≠ env.locals := fun {y a} q z => by
      refine (V.iscell y a q).elim fun vv zz1 => zz1.elim fun oc zz2 => zz2.elim fun q2 q3 => ?_; clear zz2 zz1
      rw [z, eL0] at q2; cases q2; rw [dL0] at q3; cases q3
    refine ⟨⟨_, ⟨oL, esL, epL, eL, dL, by assumption⟩, fun y u q1 q2 => ?_⟩, fun y u q1 q2 => ?_, fun y a q1 => ?_, V.locn, V.locφ, V.celln, V.apart, V.cellsAll⟩
    · by_cases z : y = x
      · subst z
        rw [upd_self] at q1; cases q1
        exact ⟨c, by simp, hv.ext W⟩
      · rw [upd_ne v z] at q1
        refine (hm y u q1 q2).elim fun c' zz1 => zz1.elim fun q3 q4 => ?_; clear zz1
        refine ⟨c', ?_, q4.ext W⟩
        rw [if_neg (fun w => z (ofString_inj w))]; exact q3
    · have z : y ≠ x := fun w => by subst w; rw [ek] at q2; rcases q2 with q2 | q2 <;> cases q2
      rw [upd_ne v z] at q1
      refine (V.cells y u q1 q2).elim fun a zz1 => zz1.elim fun c' zz2 => zz2.elim fun q3 zz3 => zz3.elim fun zz4 q6 => zz4.elim fun oc zz5 => zz5.elim fun q4 q5 => ?_; clear zz5 zz4 zz3 zz2 zz1
      exact ⟨a, c', q3, ⟨oc, (hs.2 a (notL q3)).trans q4, q5⟩, q6.ext W⟩
    · refine (V.iscell y a q1).elim fun vv zz1 => zz1.elim fun oc zz2 => zz2.elim fun q2 q3 => ?_; clear zz2 zz1
      exact ⟨vv, oc, (hs.2 a (notL q1)).trans q2, q3⟩
  · rename_i e
    have ek : env.kindOf (Str.ofString x) = some .cell := (hE.kindOf _).trans e
    refine (V.cellsAll _ (.inl ek)).elim fun a ha => ?_
    refine (V.iscell _ _ ha).elim fun v0 hc => ?_
    refine wpAny_storeName_cell hE.kind' ek ha hc (fun h' hc' hs => ?_)
    refine hc'.elim fun oc' zz1 => zz1.elim fun eC dC => ?_; clear zz1; (try clear hc')
    refine (fin (t := s.toks) (O _ ha) (V.celln _ _ ha) ⟨oc', eC⟩ (.inr ha) hs).elim fun W zz1 => zz1.elim fun R' XS => ?_; clear zz1
    refine ⟨ρ, φ, H, upd x v vars, XS, R', ?_, q⟩
    refine V.loc.elim fun m zz1 => zz1.elim fun zz2 hm => zz2.elim fun oL zz3 => zz3.elim fun esL zz4 => zz4.elim fun epL zz5 => zz5.elim fun eL zz6 => zz6.elim fun dL rL => ?_; clear zz6 zz5 zz4 zz3 zz2 zz1
    have neL : env.locals ≠ a := fun z => by
      refine hc.elim fun oc zz1 => zz1.elim fun q2 q3 => ?_; clear zz1; (try clear hc)
      rw [← z, eL] at q2; cases q2; rw [dL] at q3; cases q3
    refine ⟨⟨m, ⟨oL, esL, epL, (hs.2 _ neL).trans eL, dL, rL⟩, fun y u q1 q2 => ?_⟩, fun y u q1 q2 => ?_, fun y b q1 => ?_, V.locn, V.locφ, V.celln, V.apart, V.cellsAll⟩
    · have z : y ≠ x := fun w => by subst w; rw [ek] at q2; cases q2
      rw [upd_ne v z] at q1
      refine (hm y u q1 q2).elim fun c' zz1 => zz1.elim fun q3 q4 => ?_; clear zz1
      exact ⟨c', q3, q4.ext W⟩
    · by_cases z : y = x
      · subst z
        rw [upd_self] at q1; cases q1
        exact ⟨a, c, ha, ⟨oc', eC, dC⟩, hv.ext W⟩
      · rw [upd_ne v z] at q1
        refine (V.cells y u q1 q2).elim fun b zz1 => zz1.elim fun c' zz2 => zz2.elim fun q3 zz3 => zz3.elim fun zz4 q6 => zz4.elim fun oc zz5 => zz5.elim fun q4 q5 => ?_; clear zz5 zz4 zz3 zz2 zz1
        have : b ≠ a := fun w => z (ofString_inj (V.apart _ _ _ q3 (w ▸ ha)))
        exact ⟨b, c', q3, ⟨oc, (hs.2 b this).trans q4, q5⟩, q6.ext W⟩
    · refine (V.iscell y b q1).elim fun vv zz1 => zz1.elim fun oc zz2 => zz2.elim fun q2 q3 => ?_; clear zz2 zz1
      by_cases z : b = a
      · subst z; exact ⟨_, oc', eC, dC⟩
      · exact ⟨vv, oc, (hs.2 b z).trans q2, q3⟩
  · cases hx
theorem AS_name {x : String} {pos : Pos} {v : AV} {Q : Vars → List AO → Prop} (hx : isOwn sc (Str.ofString x) = true) (q : Q (upd x v vars) H) : AS C sc vars H (.Name (Str.ofString x) pos) v Q := fun A env ρ φ s c hA hE R V O hv =>
  wpAny_assign_Name (wpAny_mono (store_ok hx q hA hE R V (fun a e => O _ a .name e) hv) (fun _ s2 zz1 => zz1.elim fun ρ2 φ2 H2 v2 X2 R2 V2 q2 => ⟨ρ2, φ2, H2, v2, X2.mono fun y e => by subst e; exact .name, R2, V2, q2⟩) fun _ _ x => x)
theorem EX_assign {x : String} {pos pos' : Pos} {value : Expr} {Q : AF → Vars → List AO → Prop} (hsw : ∀ env, swapsWith value (some (.Name (Str.ofString x) pos')) pos.line env = pure false) (hx : isOwn sc (Str.ofString x) = true)
    (h : EV C sc vars H value (asgK x vars Q)) : EX C sc vars H (.Assign [.Name (Str.ofString x) pos'] value pos) Q := fun A env ρ φ s hA hE R V O =>
  wpAny_Assign_Name (wpAny_mono (h A env ρ φ s hA hE R V) (fun v s1 zz1 => zz1.elim fun ρ1 φ1 H1 v1 X1 R1 rv q1 =>
    wpAny_mono (store_ok (Q := fun vs H => Q .next vs H) hx q1 hA hE R1 (V.ext X1) (fun a e => X1.sub a (O _ a e)) rv) (fun _ s2 zz1 => zz1.elim fun ρ2 φ2 H2 v2 X2 R2 V2 q2 => ⟨ρ2, φ2, H2, v2, .next, X1.s.trans X2.all, R2, V2, .next, q2⟩) fun _ _ x => x) fun _ _ x => x) (hsw env)
theorem EX_assign_to {t : Expr} {pos : Pos} {value : Expr} {Q : AF → Vars → List AO → Prop} (hsw : ∀ env, swapsWithSole [t] value pos.line env = pure false) (hw : ∀ env, env.scope = sc → swappedStores [t] value env = pure none)
    (hst : ∀ env, (assignEach [t] env).map (·.2) = [assign t env]) (h : EV C sc vars H value (toK C sc vars t Q)) : EX C sc vars H (.Assign [t] value pos) Q := fun A env ρ φ s hA hE R V O =>
  wpAny_Assign_stores (wpAny_mono (h A env ρ φ s hA hE R V) (fun v s1 zz1 => zz1.elim fun ρ1 φ1 H1 v1 X1 R1 rv q1 => by
    rw [hst]
    exact wpAny_mono (q1 A env ρ1 φ1 s1 v hA hE R1 (V.ext X1) (O.ext (X1.s (env := env))).t rv) (fun _ s2 zz1 => zz1.elim fun ρ2 φ2 H2 v2 X2 R2 V2 q2 => ⟨ρ2, φ2, H2, v2, .next, X1.s.trans X2.all, R2, V2, .next, q2⟩) fun _ _ x => x) fun _ _ x => x) (hsw env) (hw env hE.scope)
theorem EX_aug {x : String} {op : Operator} {pos pos' : Pos} {value : Expr} {old : AV} {Q : AF → Vars → List AO → Prop} (hx : isOwn sc (Str.ofString x) = true) (hv : vars.lookup x = some old)
    (h : EV C sc vars H value (augK C old op x vars Q)) : EX C sc vars H (.AugAssign (.Name (Str.ofString x) pos') op value pos) Q := fun A env ρ φ s hA hE R V O => by
  refine wpAny_AugAssign_Name ?_
  have go : ∀ c, RV C.B ρ φ s.heap old c → wpAny (model C.B.prog C.B.w) A (eval value env) (fun v s₂ => wpAny (model C.B.prog C.B.w) A (inplaceOp op c v) (fun r s₃ => wpAny (model C.B.prog C.B.w) A (storeName env (Str.ofString x) r) (fun _ => PostS C env ρ φ s Q .next) noE s₃) noE s₂) noE s := fun c hc =>
    wpAny_mono (h A env ρ φ s hA hE R V) (fun v s1 zz1 => zz1.elim fun ρ1 φ1 H1 v1 X1 R1 rv q1 => wpAny_mono (q1 A ρ1 φ1 s1 c v hA R1 (hc.ext X1.w) rv) (fun r s2 zz1 => zz1.elim fun ρ2 φ2 H2 v2 X2 R2 rv2 q2 =>
      wpAny_mono (store_ok (Q := fun vs H => Q .next vs H) hx q2 hA hE R2 ((V.ext X1).ext X2) (fun a e => X2.sub a (X1.sub a (O _ a e))) rv2) (fun _ s3 zz1 => zz1.elim fun ρ3 φ3 H3 v3 X3 R3 V3 q3 => ⟨ρ3, φ3, H3, v3, .next, (X1.s.trans X2.s).trans X3.all, R3, V3, .next, q3⟩) fun _ _ x => x) fun _ _ x => x) fun _ _ x => x
  unfold isOwn at hx
  split at hx
  · rename_i e
    refine V.loc.elim fun m zz1 => zz1.elim fun hn hm => ?_; clear zz1
    refine (hm x old hv ((hE.kindOf _).trans e)).elim fun c zz1 => zz1.elim fun hc hr => ?_; clear zz1
    exact wpAny_loadName_local hE.kind' ((hE.kindOf _).trans e) hn hc (go c hr)
  · rename_i e
    refine (V.cells x old hv (.inl ((hE.kindOf _).trans e))).elim fun a zz1 => zz1.elim fun c zz2 => zz2.elim fun h1 zz3 => zz3.elim fun h2 h3 => ?_; clear zz3 zz2 zz1
    exact wpAny_loadName_cell hE.kind' ((hE.kindOf _).trans e) h1 h2 (go c h3)
  · cases hx
inductive LI (C : Cx) (env : Env) (ρ φ : List Addr) (h : Heap) (Inv : Nat → Vars → List AO → Prop) (n : Nat) (s' : Shared) : Prop
  | mk {ρ' φ' : List Addr} {H' : List AO} {v' : Vars} (X : ExtS env C.F ρ φ h ρ' φ' s'.heap) (R : Rep C.B ρ' φ' H' s') (V : RVars C.B ρ' φ' env v' s'.heap) (i : Inv n v' H')
noncomputable def LEnd (P : Flow → Shared → Prop) : Result → Shared → Prop
  | .ok f => P f
  | .error _ => fun _ => False
theorem LEnd.out {P : Flow → Shared → Prop} {r : Result} {s : Shared} {Z : Flow → Shared → Prop} {W : Value → Shared → Prop} (h : LEnd P r s) (k : ∀ f, P f s → Z f s) : match (generalizing := false) r with | .ok f => Z f s | .error e => W e s := by
  cases r with
  | ok f => exact k f h
  | error e => exact h.elim
noncomputable def TurnR (P : Flow → Shared → Prop) (L : Nat → Shared → Prop) (n : Nat) (s : Shared) : Flow → Prop
  | .next => ∃ m, m < n ∧ L m s
  | .cont => ∃ m, m < n ∧ L m s
  | .brk => P .next s
  | .ret v => P (.ret v) s
@[reducible] noncomputable def TurnV (J : Vars → List AO → Prop) (Q : AF → Vars → List AO → Prop) : AF → Vars → List AO → Prop
  | .next, v, H => J v H
  | .cont, v, H => J v H
  | .brk, v, H => Q .next v H
  | .ret r, v, H => Q (.ret r) v H
theorem TurnV.mono {J J' : Vars → List AO → Prop} {Q : AF → Vars → List AO → Prop} (k : ∀ v H, J v H → J' v H) : ∀ {f : AF} {v : Vars} {H : List AO}, TurnV J Q f v H → TurnV J' Q f v H
  | .next, _, _, h => k _ _ h
  | .cont, _, _, h => k _ _ h
  | .brk, _, _, h => h
  | .ret _, _, _, h => h
theorem turn_of {env : Env} {ρ φ ρ4 φ4 : List Addr} {s s4 : Shared} {Q : AF → Vars → List AO → Prop} {J : Vars → List AO → Prop} {L : Nat → Shared → Prop} {n : Nat} {f4 : AF} {fl : Flow} {v4 : Vars} {H4 : List AO} (rf : RF C.B ρ4 φ4 s4.heap f4 fl)
    (q4 : TurnV J Q f4 v4 H4)
    (nx : J v4 H4 → ∃ m, m < n ∧ L m s4) (XF : ExtS env C.F ρ φ s.heap ρ4 φ4 s4.heap) (R4 : Rep C.B ρ4 φ4 H4 s4) (V4 : RVars C.B ρ4 φ4 env v4 s4.heap) : TurnR (PostS C env ρ φ s Q) L n s4 fl := by
  cases rf with
  | next => exact nx q4
  | cont => exact nx q4
  | brk => exact ⟨ρ4, φ4, H4, v4, .next, XF, R4, V4, .next, q4⟩
  | ret hv => exact ⟨ρ4, φ4, H4, v4, .ret _, XF, R4, V4, .ret hv, q4⟩
theorem turn_end {env : Env} {ρ φ ρ1 φ1 ρ4 φ4 : List Addr} {s s4 : Shared} {h1 : Heap} {Q : AF → Vars → List AO → Prop} {Inv : Nat → Vars → List AO → Prop} {n : Nat} {f4 : AF} {fl : Flow} {v4 : Vars} {H4 : List AO} (rf : RF C.B ρ4 φ4 s4.heap f4 fl)
    (q4 : TurnV (fun v H => ∃ m, m < n ∧ Inv m v H) Q f4 v4 H4)
    (XF : ExtS env C.F ρ φ s.heap ρ4 φ4 s4.heap) (XL : ExtS env C.F ρ1 φ1 h1 ρ4 φ4 s4.heap) (R4 : Rep C.B ρ4 φ4 H4 s4) (V4 : RVars C.B ρ4 φ4 env v4 s4.heap) : TurnR (PostS C env ρ φ s Q) (LI C env ρ1 φ1 h1 Inv) n s4 fl :=
  turn_of (J := fun v H => ∃ m, m < n ∧ Inv m v H) rf q4 (fun zz1 => zz1.elim fun m zz2 => zz2.elim fun hm i => ⟨m, hm, XL, R4, V4, i⟩) XF R4 V4
theorem EX_while {t : Expr} {body : List Stmt} {pos : Pos} {Q : AF → Vars → List AO → Prop} (I : Nat → Vars → List AO → Prop)
    (turn : ∀ n vars H, I n vars H → ET C sc vars H t fun b H1 => if b = true then EXs C sc vars H1 body (TurnV (fun v H => ∃ m, m < n ∧ I m v H) Q) else Q .next vars H1)
    (n : Nat) (h : I n vars H) : EX C sc vars H (.While t body [] pos) Q := fun A env ρ φ s hA hE R V O => by
  refine wpAny_While (codeAny_mono (codeAny_whileLoop (R := LEnd (PostS C env ρ φ s Q)) (LI C env ρ φ s.heap I) (fun n s1 l => ?_) n ⟨ExtS.refl _ _ _ _ _, R, V, h⟩) fun r s' hr => hr.out fun _ => id)
  obtain ⟨X1, R1, V1, hI⟩ := l
  refine wpAny_mono (turn n _ _ hI A env _ _ s1 hA hE R1 V1) (fun b s2 p => ?_) fun _ _ x => x.elim
  refine p.elim fun ρ2 φ2 H2 X2 R2 q2 => ?_; (try clear p)
  have X12 := X1.trans (X2.s (env := env))
  cases b with
  | true =>
    refine wpAny_mono (q2 A env ρ2 φ2 s2 hA hE R2 (V1.ext X2) (O.ext X12)) (fun f s3 p => ?_) fun _ _ x => x.elim
    refine p.elim fun ρ3 φ3 H3 v3 f3 X3 R3 V3 rf q3 => ?_; (try clear p)
    have := turn_end rf q3 (X12.trans X3) (X12.trans X3) R3 V3
    cases f <;> exact this
  | false => exact wpAny_execs_nil ⟨ρ2, φ2, H2, _, .next, X12, R2, V1.ext X2, .next, q2⟩
noncomputable def plainArgs : List Expr → Bool
  | [] => true
  | .Starred .. :: _ => false
  | _ :: r => plainArgs r
noncomputable def EVs (C : Cx) (sc : Scope) (vars : Vars) (H : List AO) : List Expr → (List AV → List AO → Prop) → Prop
  | [], Q => Q [] H
  | e :: r, Q => EV C sc vars H e fun v H1 => EVs C sc vars H1 r fun vs H2 => Q (v :: vs) H2
inductive PostL (C : Cx) (ρ φ : List Addr) (s : Shared) (Q : List AV → List AO → Prop) (vs : List Value) (s' : Shared) : Prop
  | mk (ρ' φ' : List Addr) (H' : List AO) (vs' : List AV) (X : Ext C.F ρ φ s.heap ρ' φ' s'.heap) (R : Rep C.B ρ' φ' H' s') (r : RVs C.B ρ' φ' s'.heap vs' vs) (q : Q vs' H')
theorem PostL.elim {C : Cx} {ρ φ : List Addr} {s : Shared} {Q : List AV → List AO → Prop} {vs : List Value} {s' : Shared} {goal : Prop} (it0 : PostL C ρ φ s Q vs s') (k : ∀ (ρ' φ' : List Addr) (H' : List AO) (vs' : List AV) (X : Ext C.F ρ φ s.heap ρ' φ' s'.heap) (R : Rep C.B ρ' φ' H' s') (r : RVs C.B ρ' φ' s'.heap vs' vs) (q : Q vs' H'), goal) : goal := PostL.rec (motive := fun _ => goal) k it0
theorem starEach_plain {e : Expr} {r : List Expr} {env : Env} (h : plainArgs (e :: r) = true) : starEach (e :: r) env = (false, eval e env) :: starEach r env ∧ plainArgs r = true := by
  cases e <;> first | exact ⟨rfl, h⟩ | cases h
theorem evs_ok {env : Env} {pos : Pos} : ∀ (es : List Expr) {Q : List AV → List AO → Prop} {H : List AO} (hp : plainArgs es = true) (h : EVs C sc vars H es Q) {A : Around} {ρ φ : List Addr} {s : Shared} (hA : AOk C.d A) (hE : EnvOk sc env)
    (R : Rep C.B ρ φ H s) (V : RVars C.B ρ φ env vars s.heap), wpAny (model C.B.prog C.B.w) A (spliced (backTo pos (starEach es env))) (PostL C ρ φ s Q) noE s
  | [], Q, H, hp, h, A, ρ, φ, s, hA, hE, R, V => spliced_nil ⟨ρ, φ, H, [], Ext.refl _ _ _ _, R, .nil, h⟩
  | e :: r, Q, H, hp, h, A, ρ, φ, s, hA, hE, R, V => by
    refine (starEach_plain (env := env) hp).elim fun e1 e2 => ?_
    rw [e1]
    refine spliced_cons (wpAny_mono (h A env ρ φ s hA hE R V) (fun v s1 zz1 => zz1.elim fun ρ1 φ1 H1 v1 X1 R1 rv q1 => ?_) fun _ _ x => x)
    refine wpAny_mono (evs_ok r e2 q1 hA hE R1 (V.ext X1)) (fun vs s2 zz1 => zz1.elim fun ρ2 φ2 H2 vs2 X2 R2 rvs q2 => ?_) fun _ _ x => x
    exact ⟨ρ2, φ2, H2, v1 :: vs2, X1.trans X2, R2, .cons (rv.ext X2.w) rvs, q2⟩
theorem plain_any {env : Env} {pos : Pos} : ∀ (es : List Expr), plainArgs es = true → (backTo pos (starEach es env)).any (·.1) = false
  | [], _ => rfl
  | e :: r, h => by
    refine (starEach_plain (env := env) h).elim fun e1 e2 => ?_
    rw [e1]
    show (false || (backTo pos (starEach r env)).any (·.1)) = false
    rw [plain_any r e2]; rfl
noncomputable def CALL (C : Cx) (H : List AO) (f : Value) (vs : List AV) (Q : AV → List AO → Prop) : Prop :=
  ∀ (A : Around) (ρ φ : List Addr) (s : Shared) (xs : List Value), AOk C.d A → Rep C.B ρ φ H s → RVs C.B ρ φ s.heap vs xs →
    wpAny (model C.B.prog C.B.w) A (call f xs) (Post C ρ φ s Q) noE s
noncomputable def keepOk (K : Frag) : Value → Bool
  | .ref a => keepIn K (.ref a)
  | .type _ => true
  | .builtin _ => true
  | _ => false
theorem keepOk_looks {M : Model} {K : Frag} {f : Value} {h : Heap} (k : keepOk K f = true) (X : K.In h) : ∃ k, (k = Keeper.frame ∨ k = Keeper.machine ∨ k = Keeper.boundFrame) ∧ Looks M h (keeperOf f) k := by
  cases f with
  | ref a => exact keeps_K (f := .ref a) (show keepIn K (.ref a) = true from k) h X
  | type n => exact ⟨.machine, .inr (.inl rfl), .now⟩
  | builtin n => exact ⟨.machine, .inr (.inl rfl), .now⟩
  | _ => cases k
theorem callWith_ok {f : Value} {first : List AV} {env : Env} {es : List Expr} {pos : Pos} {Q : AV → List AO → Prop} (O : C.B.Ok) (hk : keepOk C.B.K f = true) (hp : plainArgs es = true) (h : EVs C sc vars H es fun vs H1 => CALL C H1 f (first ++ vs) Q)
    {A : Around} {ρ φ : List Addr} {s : Shared} {fs : List Value} (hA : AOk C.d A) (hE : EnvOk sc env) (R : Rep C.B ρ φ H s) (V : RVars C.B ρ φ env vars s.heap) (hf : RVs C.B ρ φ s.heap first fs) :
    wpAny (model C.B.prog C.B.w) A (callWith pos f fs (backTo pos (starEach es env)) []) (Post C ρ φ s Q) noE s := by
  have inK : ∀ {ρ φ H s}, Rep C.B ρ φ H s → C.B.K.In s.heap := fun R a o e => R.base _ _ (O.inK a o e)
  refine callWith_of (P := fun h => C.B.K.In h) (by rw [plain_any es hp]; rfl) (fun h X => keepOk_looks hk X) ?_
  have fin := wpAny_mono (evs_ok (env := env) (pos := pos) es hp h hA hE R V) (Q' := fun vs s1 => C.B.K.In s1.heap ∧ wpAny (model C.B.prog C.B.w) A (call f (fs ++ vs)) (Post C ρ φ s Q) noE s1) (fun vs s1 zz1 => zz1.elim fun ρ1 φ1 H1 vs1 X1 R1 rvs q1 =>
    ⟨inK R1, wpAny_mono (q1 A ρ1 φ1 s1 (fs ++ vs) hA R1 ((hf.ext X1.w).append rvs)) (fun v s2 p => p.ext X1) fun _ _ x => x⟩) fun _ _ x => x
  cases es with
  | nil =>
    refine evalArgs_nil3 ?_
    have hn : EVs C sc vars H [] (fun vs H1 => CALL C H1 f (first ++ vs) Q) := h
    exact ⟨inK R, wpAny_mono (hn A ρ φ s (fs ++ []) hA R (hf.append .nil)) (fun v s2 p => p) fun _ _ x => x⟩
  | cons e r =>
    refine (starEach_plain (env := env) hp).elim fun e1 e2 => ?_
    rw [e1] at fin ⊢
    exact evalArgs_plain fin
theorem EV_call {fn : Expr} {es : List Expr} {pos : Pos} {Q : AV → List AO → Prop} (O : C.B.Ok) (hp : plainArgs es = true)
    (hev : ∀ env, eval (.Call fn es [] pos) env = (do callWith pos (← eval fn env) [] (backTo pos (starEach es env)) []))
    (h : EV C sc vars H fn fun fv H1 => ∃ f, fv = .val f ∧ keepOk C.B.K f = true ∧ EVs C sc vars H1 es fun vs H2 => CALL C H2 f vs Q) : EV C sc vars H (.Call fn es [] pos) Q := fun A env ρ φ s hA hE R V => by
  rw [hev]
  refine wpAny_bind (wpAny_mono (h A env ρ φ s hA hE R V) (fun fv s1 ⟨ρ1, φ1, H1, v1, X1, R1, rv, f, e, hk, q1⟩ => ?_) fun _ _ x => x)
  subst e
  cases rv.eqv
  exact wpAny_mono (callWith_ok (first := []) (fs := []) O hk hp q1 hA hE R1 (V.ext X1) .nil) (fun v s2 p => p.ext X1) fun _ _ x => x
noncomputable def GETM (C : Cx) (H : List AO) (o : AV) (name : Str) (f : Value) : Prop :=
  ∀ (A : Around) (ρ φ : List Addr) (s : Shared) (ov : Value) (pl : Sem Bool) (Q : Value × List Value → Shared → Prop), AOk C.d A → Rep C.B ρ φ H s → RV C.B ρ φ s.heap o ov → Q (f, [ov]) s →
    wpAny (model C.B.prog C.B.w) A (getMethod ov name pl) Q noE s
theorem EV_meth {o : Expr} {name : Str} {apos pos : Pos} {es : List Expr} {pl : Env → Sem Bool} {Q : AV → List AO → Prop} (O : C.B.Ok) (hp : plainArgs es = true)
    (hev : ∀ env, eval (.Call (.Attribute o name apos) es [] pos) env = (do
        let ov ← eval o env
        standAt apos.atName
        let (f, first) ← holding [ov] (getMethod ov name (pl env))
        callWith pos f first (backTo pos (starEach es env)) []))
    (h : EV C sc vars H o fun ov H1 => ∃ f, GETM C H1 ov name f ∧ keepOk C.B.K f = true ∧ EVs C sc vars H1 es fun vs H2 => CALL C H2 f (ov :: vs) Q) : EV C sc vars H (.Call (.Attribute o name apos) es [] pos) Q := fun A env ρ φ s hA hE R V =>
  MethodCall_ (wpAny_mono (h A env ρ φ s hA hE R V) (fun ov s1 ⟨ρ1, φ1, H1, v1, X1, R1, rv, f, hg, hk, q1⟩ => by
    refine hg A ρ1 φ1 s1 ov (pl env) _ hA R1 rv ?_
    exact wpAny_mono (callWith_ok (first := [v1]) (fs := [ov]) O hk hp q1 hA hE R1 (V.ext X1) (.one rv)) (fun v s2 p => p.ext X1) fun _ _ x => x) fun _ _ x => x) (hev env)
end
end
section
noncomputable def AV.lts (n : Nat) : AV → Prop
  | .ref i => i < n
  | _ => True
mutual
inductive Scp (n : Nat) : AV → Prop
  | mk {v} (h : v.lts n) (k : Scps n v.kids) : Scp n v
inductive Scps (n : Nat) : List AV → Prop
  | nil : Scps n []
  | cons {x xs} (h : Scp n x) (r : Scps n xs) : Scps n (x :: xs)
end
structure ScpO (n : Nat) (o : AO) : Prop where
  link : ∀ d, o.link = some d → d < n
  kids : Scps n o.kids
section
variable {n : Nat}
theorem Scp.none : Scp n .none := .mk trivial .nil
theorem Scp.bool (b) : Scp n (.bool b) := .mk trivial .nil
theorem Scp.int (i) : Scp n (.int i) := .mk trivial .nil
theorem Scp.str (l) : Scp n (.str l) := .mk trivial .nil
theorem Scp.val (v) : Scp n (.val v) := .mk trivial .nil
theorem Scp.tup {xs} (h : Scps n xs) : Scp n (.tup xs) := .mk trivial h
theorem Scp.list {xs} (h : Scps n xs) : Scp n (.list xs) := .mk trivial h
theorem Scp.dictS {es} (h : Scps n (es.map (·.2))) : Scp n (.dictS es) := .mk trivial h
theorem Scp.dictI {es} (h : Scps n (es.map (·.2))) : Scp n (.dictI es) := .mk trivial h
theorem Scp.inst {c as} (h : Scps n (as.map (·.2))) : Scp n (.inst c as) := .mk trivial h
theorem Scp.ref {i} (h : i < n) : Scp n (.ref i) := .mk h .nil
theorem Scp.meth {f x} (h : Scp n x) : Scp n (.meth f x) := .mk trivial (.cons h .nil)
theorem Scp.stream {r x} (h : Scp n x) : Scp n (.stream r x) := .mk trivial (.cons h .nil)
theorem Scp.kids {v : AV} (s : Scp n v) : Scps n v.kids := Scp.casesOn (motive_1 := fun v _ => Scps n v.kids) s fun _ k => k
theorem Scp.lt {v : AV} (s : Scp n v) : v.lts n := Scp.casesOn (motive_1 := fun v _ => v.lts n) s fun h _ => h
theorem Scps.hd {x : AV} {xs : List AV} (s : Scps n (x :: xs)) : Scp n x := by cases s; assumption
theorem Scps.tl {x : AV} {xs : List AV} (s : Scps n (x :: xs)) : Scps n xs := by cases s; assumption
theorem ScpO.plain {o : AO} (h : o.link = Option.none) (k : Scps n o.kids) : ScpO n o := ⟨fun _ e => (nomatch h.symm.trans e), k⟩
theorem ScpO.list {xs} (h : Scps n xs) : ScpO n (.list xs) := .plain rfl h
theorem ScpO.dictS {es} (h : Scps n (es.map (·.2))) : ScpO n (.dictS es) := .plain rfl h
theorem ScpO.dictI {es} (h : Scps n (es.map (·.2))) : ScpO n (.dictI es) := .plain rfl h
theorem ScpO.inst {c d} (h : d < n) : ScpO n (.inst c d) := ⟨fun _ e => Option.some.inj e ▸ h, .nil⟩
theorem ScpO.ns {as} (h : Scps n (as.map (·.2))) : ScpO n (.ns as) := .plain rfl h
theorem ScpO.citer {f s} (h : Scp n f) (h' : Scp n s) : ScpO n (.citer f s) := .plain rfl (.cons h (.cons h' .nil))
theorem ScpO.cdone : ScpO n .cdone := .plain rfl .nil
theorem ScpO.tab0 {P} : ScpO n (.tab0 P) := .plain rfl .nil
theorem ScpO.opaq : ScpO n .opaq := .plain rfl .nil
end
section
variable {B : Base} {ρ φ : List Addr} {h : Heap}
theorem lt_of_get {α : Type} {l : List α} {i : Nat} {a : α} (e : l[i]? = some a) : i < l.length := (List.getElem?_eq_some_iff.mp e).1
theorem At.lts {v : AV} {c : Value} (e : At B v c) (n : Nat) : v.lts n := At.rec (motive := fun v _ _ => v.lts n) trivial (fun _ => trivial) (fun _ _ => trivial) (fun _ _ => trivial) (fun _ => trivial) e
theorem At.kids {v : AV} {c : Value} (e : At B v c) : v.kids = [] := At.rec (motive := fun v _ _ => v.kids = []) rfl (fun _ => rfl) (fun _ _ => rfl) (fun _ _ => rfl) (fun _ => rfl) e
theorem Sh.lts {v : AV} {c : Value} {L : List (Addr × Obj)} {vs : List Value} (s : Sh B v c L vs) (n : Nat) : v.lts n :=
  Sh.rec (motive := fun v _ _ _ _ => v.lts n) (fun _ => trivial) (fun _ => trivial) (fun _ _ _ => trivial) (fun _ _ _ => trivial) (fun _ => trivial) trivial (fun _ => trivial) s
theorem RV.scp {v : AV} {c : Value} (r : RV B ρ φ h v c) : Scp ρ.length v :=
  RV.rec (motive_1 := fun v _ _ => Scp ρ.length v) (motive_2 := fun xs _ _ => Scps ρ.length xs) (fun e => .mk (e.lts _) (e.kids ▸ .nil)) (fun ha => .ref (lt_of_get ha)) (fun s _ _ ih => .mk (s.lts _) ih) .nil (fun _ _ a b => .cons a b) r
theorem RVs.scp {xs : List AV} {vs : List Value} (r : RVs B ρ φ h xs vs) : Scps ρ.length xs :=
  RVs.rec (motive_1 := fun v _ _ => Scp ρ.length v) (motive_2 := fun xs _ _ => Scps ρ.length xs) (fun e => .mk (e.lts _) (e.kids ▸ .nil)) (fun ha => .ref (lt_of_get ha)) (fun s _ _ ih => .mk (s.lts _) ih) .nil (fun _ _ a b => .cons a b) r
end
section
variable {B : Base} {ρ φ : List Addr} {h : Heap}
theorem RO.scp {o : AO} {a : Addr} (x : RO B ρ φ h o a) : ScpO ρ.length o := let ⟨_, _, hr, hx⟩ := x; ⟨fun d e => lt_of_get (hr d e), hx.scp⟩
variable {ρ₀ : List Addr}
theorem pre_get (p : ρ₀ <+: ρ) {i : Nat} {a : Addr} (hi : i < ρ₀.length) (e : ρ[i]? = some a) : ρ₀[i]? = some a := by
  refine p.elim fun t zz1 => ?_; (try clear p); (first | subst zz1 | cases zz1)
  rwa [List.getElem?_append_left hi] at e
theorem pre_nin (p : ρ₀ <+: ρ) {a : Addr} (n : a ∉ ρ) : a ∉ ρ₀ := fun q => n (p.subset q)
theorem Own.cut (p : ρ₀ <+: ρ) {L : List (Addr × Obj)} (k : Own ρ φ h L) : Own ρ₀ φ h L := fun q hq => (k q hq).elim fun e zz1 => zz1.elim fun n z => ⟨e, ⟨pre_nin p n.1, n.2⟩, z⟩
theorem RV.cut (p : ρ₀ <+: ρ) {v : AV} {c : Value} (r : RV B ρ φ h v c) : Scp ρ₀.length v → RV B ρ₀ φ h v c :=
  RV.rec (motive_1 := fun v c _ => Scp ρ₀.length v → RV B ρ₀ φ h v c) (motive_2 := fun xs vs _ => Scps ρ₀.length xs → RVs B ρ₀ φ h xs vs) (fun e _ => .atom e) (fun ha s => .ref (pre_get p s.lt ha)) (fun s k _ ih z => .obj s (k.cut p) (ih z.kids)) (fun _ => .nil)
    (fun _ _ a b s => .cons (a s.hd) (b s.tl)) r
theorem RVs.cut (p : ρ₀ <+: ρ) {xs : List AV} {vs : List Value} (r : RVs B ρ φ h xs vs) : Scps ρ₀.length xs → RVs B ρ₀ φ h xs vs :=
  RVs.rec (motive_1 := fun v c _ => Scp ρ₀.length v → RV B ρ₀ φ h v c) (motive_2 := fun xs vs _ => Scps ρ₀.length xs → RVs B ρ₀ φ h xs vs) (fun e _ => .atom e) (fun ha s => .ref (pre_get p s.lt ha)) (fun s k _ ih z => .obj s (k.cut p) (ih z.kids)) (fun _ => .nil)
    (fun _ _ a b s => .cons (a s.hd) (b s.tl)) r
theorem RO.cut (p : ρ₀ <+: ρ) {o : AO} {a : Addr} (x : RO B ρ φ h o a) (s : ScpO ρ₀.length o) : RO B ρ₀ φ h o a := let ⟨q, ho, hr, hx⟩ := x; ⟨q, ho, fun d e => pre_get p (s.link d e) (hr d e), hx.cut p s.kids⟩
end
mutual
inductive Frz (n : Nat) (H : List AO) : AV → AV → Prop
  | scp {v} (h : Scp n v) : Frz n H v v
  | tup {xs ys} (h : Frzs n H xs ys) : Frz n H (.tup xs) (.tup ys)
  | list {xs ys} (h : Frzs n H xs ys) : Frz n H (.list xs) (.list ys)
  | rlist {i xs ys} (hi : n ≤ i) (e : H[i]? = some (.list xs)) (h : Frzs n H xs ys) : Frz n H (.ref i) (.list ys)
  | rdictS {i es fs} (hi : n ≤ i) (e : H[i]? = some (.dictS es)) (hk : es.map (·.1) = fs.map (·.1)) (h : Frzs n H (es.map (·.2)) (fs.map (·.2))) : Frz n H (.ref i) (.dictS fs)
  | rdictI {i es fs} (hi : n ≤ i) (e : H[i]? = some (.dictI es)) (hk : es.map (·.1) = fs.map (·.1)) (h : Frzs n H (es.map (·.2)) (fs.map (·.2))) : Frz n H (.ref i) (.dictI fs)
  | rinst {i d c as bs} (hi : n ≤ i) (e : H[i]? = some (.inst c d)) (hd : n ≤ d) (e' : H[d]? = some (.ns as)) (hk : as.map (·.1) = bs.map (·.1)) (h : Frzs n H (as.map (·.2)) (bs.map (·.2))) : Frz n H (.ref i) (.inst c bs)
inductive Frzs (n : Nat) (H : List AO) : List AV → List AV → Prop
  | nil : Frzs n H [] []
  | cons {x y xs ys} (h : Frz n H x y) (r : Frzs n H xs ys) : Frzs n H (x :: xs) (y :: ys)
end
theorem KeysAs.keys : ∀ {as bs : List (String × AV)} {es : List DictEntry}, KeysAs as es → as.map (·.1) = bs.map (·.1) → KeysAs bs es
  | [], [], _, x, _ => x
  | [], _ :: _, _, _, h => by cases h
  | _ :: _, [], _, _, h => by cases h
  | a :: as, b :: bs, [], x, _ => x
  | a :: as, b :: bs, e :: es, x, h => by
    rw [List.map_cons, List.map_cons, List.cons.injEq] at h
    exact ⟨by rw [← h.1]; exact x.1, KeysAs.keys x.2 h.2⟩
theorem keys_sOf {es fs : List (List Nat × AV)} (hk : es.map (·.1) = fs.map (·.1)) : (es.map fun e => sOf e.1) = fs.map fun e => sOf e.1 := by
  have := congrArg (List.map sOf) hk; rw [List.map_map, List.map_map] at this; exact this
section
variable {B : Base} {ρ ρ₀ φ : List Addr} {H : List AO} {s : Shared}
theorem Rep.late (R : Rep B ρ φ H s) (p : ρ₀ <+: ρ) {i : Nat} {a : Addr} (hi : ρ₀.length ≤ i) (e : ρ[i]? = some a) : a ∉ ρ₀ ∧ a ∉ φ :=
  ⟨fun q => by
    refine (List.getElem_of_mem q).elim fun j zz1 => zz1.elim fun hj ej => ?_; clear zz1
    have e2 : ρ[j]? = some a := getρ_of p (by rw [List.getElem?_eq_getElem hj, ej])
    have := nodup_inj R.nodup e e2
    lia, fun q => R.disj a q (List.mem_of_getElem? e)⟩
theorem Frz.ok (R : Rep B ρ φ H s) (p : ρ₀ <+: ρ) {v v' : AV} {c : Value} (f : Frz ρ₀.length H v v') : RV B ρ φ s.heap v c → RV B ρ₀ φ s.heap v' c := by
  refine Frz.rec (motive_1 := fun v v' _ => ∀ c, RV B ρ φ s.heap v c → RV B ρ₀ φ s.heap v' c) (motive_2 := fun xs ys _ => ∀ cs, RVs B ρ φ s.heap xs cs → RVs B ρ₀ φ s.heap ys cs) (fun h _ r => r.cut p h) (fun _ ih c r => ?_) (fun _ ih c r => ?_)
    (fun hi e _ ih c r => ?_) (fun hi e hk _ ih c r => ?_) (fun hi e hk _ ih c r => ?_) (fun hi e hd e' hk _ ih c r => ?_) (fun cs r => ?_) (fun _ _ ih ihs cs r => ?_) f c
  · cases r.inv with | tup ho hn hx => exact .tup ho ⟨pre_nin p hn.1, hn.2⟩ (ih _ hx)
  · cases r.inv with | list ho hn hx => exact .list ho ⟨pre_nin p hn.1, hn.2⟩ (ih _ hx)
  · cases r.inv with | ref ha => cases (R.obj _ _ _ e ha).inv with | list ho hx => exact .list ho (R.late p hi ha) (ih _ hx)
  · cases r.inv with | ref ha => cases (R.obj _ _ _ e ha).inv with | dictS ho hs hk' hx => exact .dictS ho hs (R.late p hi ha) (hk'.trans (keys_sOf hk)) (ih _ hx)
  · cases r.inv with | ref ha => cases (R.obj _ _ _ e ha).inv with | dictI ho hs hk' hx => exact .dictI ho hs (R.late p hi ha) (hk'.trans hk) (ih _ hx)
  · cases r.inv with | ref ha => cases (R.obj _ _ _ e ha).inv with | inst ho hdx => cases (R.obj _ _ _ e' hdx).inv with | ns hn hk' hx => exact .inst ho hn (R.late p hi ha) (R.late p hd hdx) (hk'.keys hk) (ih _ hx)
  · cases r.inv; exact .nil
  · cases r.inv with | cons hx hr => exact .cons (ih _ hx) (ihs _ hr)
end
section
variable {B : Base} {ρ ρ₀ φ : List Addr} {H : List AO} {s : Shared}
theorem Rep.drop (R : Rep B ρ φ H s) (p : ρ₀ <+: ρ) (hl : ρ₀.length ≤ H.length)
    (hs : ∀ (i : Nat) o, i < ρ₀.length → H[i]? = some o → ScpO ρ₀.length o) : Rep B ρ₀ φ (H.take ρ₀.length) s where
  len := by rw [List.length_take]; lia
  nodup := List.Sublist.nodup p.sublist R.nodup
  obj := fun i o a e1 e2 => by
    have hi := lt_of_get e2
    rw [List.getElem?_take_of_lt hi] at e1
    exact (R.obj i o a e1 (getρ_of p e2)).cut p (hs i o hi e1)
  base := R.base
  sep := fun a ha => R.sep a (ha.imp_left fun q => p.subset q)
  disj := fun a ha q => R.disj a ha (p.subset q)
  alive := fun a ha => R.alive a (ha.imp_left fun q => p.subset q)
  gens := R.gens
  os := R.os
end
end
section
noncomputable def isOwnK (k : Option NameKind) : Bool := match k with
  | some .local => true
  | some .cell => true
  | _ => false
structure FnOk (B : Base) (a : Addr) (fd : FuncData) (names : List String) (body : List Stmt) : Prop where
  lk : ∃ oc od osl, B.K.lookup a = some ⟨oc, od, .func fd, osl⟩
  closure : fd.closure = []
  glob : fd.globals = mainGlobals
  bi : fd.builtins = builtinsNs
  body : fd.body = .stmts body
  code : codeIn B.K fd.code fd.qualname = true
  bind : ∀ xs : List Value, xs.length = names.length → bindArgs fd ⟨xs, []⟩ = pure ((names.map Str.ofString).zip xs)
  kinds : (names.all fun x => isOwnK (fd.scope.names.lookup (Str.ofString x))) = true
  nodup : names.Nodup
  nofree : (fd.scope.names.all fun x => x.2 != .free) = true
  co : fd.scope.isCoroutine = false
  gen : fd.scope.isGenerator = false
  kind : fd.scope.kind = .function
theorem zip_lookup {vs : List AV} : ∀ {names : List String} {x : String} {v : AV}, (names.zip vs).lookup x = some v → ∃ i : Nat, names[i]? = some x ∧ vs[i]? = some v := by
  induction vs with
  | nil => intro names x v h; simp at h
  | cons u r ih =>
    intro names x v h
    cases names with
    | nil => simp at h
    | cons y ns =>
      rw [List.zip_cons_cons, List.lookup_cons] at h
      cases hx : x == y with
      | true =>
        have : x = y := by simpa using hx
        rw [hx] at h; simp at h
        exact ⟨0, by simp [this], by simp [h]⟩
      | false =>
        rw [hx] at h; simp at h
        refine (ih h).elim fun i zz1 => zz1.elim fun h1 h2 => ?_; clear zz1
        exact ⟨i + 1, by simpa using h1, by simpa using h2⟩
theorem bindL_other {k : Str → Option NameKind} {x : Str} : ∀ {bs : List (Str × Value)} {m : Str → Option Value}, (∀ p ∈ bs, p.1 ≠ x) → bindL k bs m x = m x
  | [], _, _ => rfl
  | (n, v) :: r, m, h => by
    unfold bindL
    rw [bindL_other (fun p hp => h p (List.mem_cons_of_mem _ hp))]
    split
    · exact if_neg fun e => h (n, v) List.mem_cons_self e.symm
    · rfl
theorem bindC_other {k : Str → Option NameKind} {x : Str} : ∀ {bs : List (Str × Value)} {m : Str → Option Value}, (∀ p ∈ bs, p.1 ≠ x) → bindC k bs m x = m x
  | [], _, _ => rfl
  | (n, v) :: r, m, h => by
    unfold bindC
    rw [bindC_other (fun p hp => h p (List.mem_cons_of_mem _ hp))]
    split
    · rfl
    · exact if_neg fun e => h (n, v) List.mem_cons_self e.symm
theorem zip_keys {names : List String} {xs : List Value} {p : Str × Value} (h : p ∈ (names.map Str.ofString).zip xs) : ∃ y ∈ names, Str.ofString y = p.1 := by
  have := (List.of_mem_zip h).1
  refine (List.mem_map.mp this).elim fun y zz1 => zz1.elim fun hy e => ?_; clear zz1
  exact ⟨y, hy, e⟩
theorem bindL_at {k : Str → Option NameKind} {x : String} {c : Value} (hk : k (Str.ofString x) = some .local) : ∀ {names : List String} {xs : List Value} {m : Str → Option Value} {i : Nat}, names.Nodup → names[i]? = some x → xs[i]? = some c →
    bindL k ((names.map Str.ofString).zip xs) m (Str.ofString x) = some c
  | [], _, _, i, _, e, _ => by simp at e
  | y :: ns, [], _, i, _, _, e => by simp at e
  | y :: ns, u :: us, m, i, nd, e1, e2 => by
    rw [List.nodup_cons] at nd
    rw [List.map_cons, List.zip_cons_cons]
    unfold bindL
    cases i with
    | zero =>
      simp at e1 e2; subst e1; subst e2
      rw [bindL_other fun p hp q => ?_, if_pos hk]
      · exact if_pos rfl
      refine (zip_keys hp).elim fun z zz1 => zz1.elim fun hz e => ?_; clear zz1
      exact nd.1 (ofString_inj (e.trans q) ▸ hz)
    | succ i => exact bindL_at hk nd.2 (by simpa using e1) (by simpa using e2)
theorem bindC_at {k : Str → Option NameKind} {x : String} {c : Value} (hk : k (Str.ofString x) ≠ some .local) : ∀ {names : List String} {xs : List Value} {m : Str → Option Value} {i : Nat}, names.Nodup → names[i]? = some x → xs[i]? = some c →
    bindC k ((names.map Str.ofString).zip xs) m (Str.ofString x) = some c
  | [], _, _, i, _, e, _ => by simp at e
  | y :: ns, [], _, i, _, _, e => by simp at e
  | y :: ns, u :: us, m, i, nd, e1, e2 => by
    rw [List.nodup_cons] at nd
    rw [List.map_cons, List.zip_cons_cons]
    unfold bindC
    cases i with
    | zero =>
      simp at e1 e2; subst e1; subst e2
      rw [bindC_other fun p hp q => ?_, if_neg hk]
      · exact if_pos rfl
      refine (zip_keys hp).elim fun z zz1 => zz1.elim fun hz e => ?_; clear zz1
      exact nd.1 (ofString_inj (e.trans q) ▸ hz)
    | succ i => exact bindC_at hk nd.2 (by simpa using e1) (by simpa using e2)
noncomputable def retOf : AF → AV
  | .ret v => v
  | _ => .none
noncomputable abbrev Cx.down (C : Cx) : Cx := { C with d := C.d - 1 }
section
variable {C : Cx} {H : List AO}
theorem recLimit_lt {A : Around} {d : Nat} (hA : AOk d A) : A.depth < recursionLimit := by
  have := hA.depth
  show A.depth < 1000
  exact as14 (by assumption) (by rfl)
theorem Rep.noLimit {B : Base} {ρ φ : List Addr} {H : List AO} {s : Shared} (R : Rep B ρ φ H s) (O : B.Ok) : s.heap.NoLimit := O.nolimit.keeps R.base
theorem Rep.inK {B : Base} {ρ φ : List Addr} {H : List AO} {s : Shared} (R : Rep B ρ φ H s) (O : B.Ok) : B.K.In s.heap := fun a o e => R.base _ _ (O.inK a o e)
noncomputable def EXf (C : Cx) (fd : FuncData) (vars : Vars) (H : List AO) (st : List Stmt) (Q : AF → Vars → List AO → Prop) : Prop :=
  ∀ (A : Around) (env : Env) (ρ φ : List Addr) (s : Shared), AOk C.d A → EnvOk fd.scope env → env.code = fd.code → env.qual = fd.qualname ++ ".<locals>." → Rep C.B ρ φ H s → RVars C.B ρ φ env vars s.heap → CellOwn φ env →
    wpAny (model C.B.prog C.B.w) A (execs st env) (PostS C env ρ φ s Q) noE s
structure Entered (C : Cx) (fd : FuncData) (vars : Vars) (H : List AO) (ρ φ : List Addr) (s : Shared) (A : Around) (env : Env) (φ' : List Addr) (s₁ : Shared) : Prop where
  ao : AOk C.down.d A
  eo : EnvOk fd.scope env
  code : env.code = fd.code
  qual : env.qual = fd.qualname ++ ".<locals>."
  rep : Rep C.B ρ φ' H s₁
  vars : RVars C.B ρ φ' env vars s₁.heap
  own : CellOwn φ' env
  keep : ∀ b o, s.heap.get? b = some o → s₁.heap.get? b = some o
  newL : s.heap.get? env.locals = none
  newC : ∀ x b, env.cells.lookup x = some b → s.heap.get? b = none
  sub : ∀ b ∈ φ, b ∈ φ'
  newφ : ∀ b ∈ φ', b ∉ φ → s.heap.get? b = none
  gens : s₁.gens = s.gens
  os : s₁.os = s.os
theorem code_enter {a : Addr} {fd : FuncData} {names : List String} {body : List Stmt} {vs : List AV} {Q : AV → List AO → Prop} (O : C.B.Ok) (hd : 0 < C.d) (F : FnOk C.B a fd names body) (hl : vs.length = names.length)
    {A : Around} {ρ φ : List Addr} {s : Shared} {xs : List Value} (hA : AOk C.d A) (R : Rep C.B ρ φ H s) (hxs : RVs C.B ρ φ s.heap vs xs)
    (h : ∀ A' env φ' s₁, Entered C fd (names.zip vs) H ρ φ s A' env φ' s₁ → wpAny (model C.B.prog C.B.w) A' (execs body env) (fun fl s' => Post C ρ φ s Q (match fl with | .ret v => v | _ => .none) s') noE s₁) :
    codeAny (model C.B.prog C.B.w) A (.call (.ref a) ⟨xs, []⟩) (fun r s' => match r with | .ok (.ret v) => Post C ρ φ s Q v s' | .ok _ => False | .error e => False) s := by
  refine F.lk.elim fun oc zz1 => zz1.elim fun od zz2 => zz2.elim fun osl hk => ?_; clear zz2 zz1
  have hxl : xs.length = names.length := by rw [← hxs.length, hl]
  have X := R.inK O
  refine codeAny_call_cells (recLimit_lt hA) (X _ _ hk) rfl (R.noLimit O) (codeRec_of X F.code) F.body (F.bind xs hxl) F.closure (fun x hx => ?_) (fun s₁ I => ?_) F.co F.gen F.kind
  · refine (zip_keys hx).elim fun y zz1 => zz1.elim fun hy e => ?_; clear zz1
    have := List.all_eq_true.mp F.kinds y hy
    rw [e] at this
    unfold isOwnK at this
    split at this
    · rename_i q; exact .inl q
    · rename_i q; exact .inr ⟨q, cellsFrom_some _ _ _ (.inl q)⟩
    · cases this
  · generalize hL : s.heap.objs.size = L at I ⊢
    have Lf : ∀ {x}, x ∈ ρ ∨ x ∈ φ → x < L := fun {x} q => by rw [← hL]; refine (R.alive x q).elim fun o e => ?_; exact Heap.lt_size e
    have old : ∀ {x o}, s.heap.get? x = some o → x < L := fun {x o} e => by rw [← hL]; exact Heap.lt_size e
    let env := callEnvC fd L a
    have hEl : env.locals = L := rfl
    have cmem : ∀ {x c}, env.cells.lookup x = some c → L < c := fun {x c} e => I.above x c (mem_of_lookup e)
    let φ' := L :: ((env.cells.filter fun p => env.cells.lookup p.1 == some p.2).map (·.2) ++ φ)
    have inφ : ∀ {x}, x ∈ φ' → x = L ∨ (∃ n, env.cells.lookup n = some x) ∨ x ∈ φ := fun {x} q => by
      rcases List.mem_cons.mp q with q | q
      · exact .inl q
      · rcases List.mem_append.mp q with q | q
        · refine (List.mem_map.mp q).elim fun p zz1 => zz1.elim fun hp e => ?_; clear zz1
          have := (List.mem_filter.mp hp).2
          exact .inr (.inl ⟨p.1, by rw [← e]; simpa using this⟩)
        · exact .inr (.inr q)
    have newφ : ∀ {x}, x ∈ φ' → x ∉ φ → L ≤ x := fun {x} q n => by
      rcases inφ q with q | ⟨n', q⟩ | q
      · exact Nat.le_of_eq q.symm
      · exact Nat.le_of_lt (cmem q)
      · exact absurd q n
    have subφ : ∀ x ∈ φ, x ∈ φ' := fun x q => List.mem_cons_of_mem _ (List.mem_append_right _ q)
    have cinφ : ∀ {n x}, env.cells.lookup n = some x → x ∈ φ' := fun {n x} q => List.mem_cons_of_mem _ (List.mem_append_left _ (List.mem_map.mpr ⟨(n, x), List.mem_filter.mpr ⟨mem_of_lookup q, by simpa using q⟩, rfl⟩))
    have isalive : ∀ {x}, x ∈ φ' → ∃ o, s₁.heap.get? x = some o := fun {x} q => by
      rcases inφ q with q | ⟨n', q⟩ | q
      · subst q; refine I.toInCall.ns.elim fun o zz1 => zz1.elim fun _ zz2 => zz2.elim fun _ zz3 => zz3.elim fun e _ => ?_; clear zz3 zz2 zz1; exact ⟨o, e⟩
      · refine (I.cell n' x q).elim fun o zz1 => zz1.elim fun e _ => ?_; clear zz1; exact ⟨o, e⟩
      · refine (R.alive x (.inr q)).elim fun o e => ?_; exact ⟨o, I.toInCall.keep _ _ e⟩
    refine I.toInCall.same.elim fun hh zz1 => zz1.elim fun tk es => ?_; clear zz1
    have W : ExtW ρ φ s.heap ρ φ' s₁.heap := ⟨List.prefix_rfl, fun b o e n _ => ⟨I.toInCall.keep b o e, n.1, fun q => absurd (old e) (Nat.not_lt.mpr (newφ q n.2))⟩⟩
    have R₁ : Rep C.B ρ φ' H s₁ := R.step W (fun b o e => I.toInCall.keep b o (R.base b o e)) R.len R.nodup
      (fun i o b e1 e2 => .inl ⟨e1, e2, by refine (R.alive b (.inl (List.mem_of_getElem? e2))).elim fun o' q => ?_; rw [q]; exact I.toInCall.keep b o' q⟩)
      (fun b q => by
        rcases q with q | q
        · exact .inl (.inl q)
        · by_cases z : b ∈ φ
          · exact .inl (.inr z)
          · exact .inr (by rw [hL]; exact newφ q z))
      (fun b q z => by
        by_cases w : b ∈ φ
        · exact R.disj b w z
        · exact absurd (Lf (.inl z)) (Nat.not_lt.mpr (newφ q w)))
      (fun b q => by
        rcases q with q | q
        · refine (R.alive b (.inl q)).elim fun o e => ?_; exact ⟨o, I.toInCall.keep b o e⟩
        · exact isalive q) (by rw [es]) (by rw [es])
    have kof : ∀ x, env.kindOf x = fd.scope.names.lookup x := fun x => rfl
    have V : RVars C.B ρ φ' env (names.zip vs) s₁.heap := by
      refine ⟨⟨_, I.toInCall.ns, fun x v e k => ?_⟩, fun x v e k => ?_, fun x b e => ⟨_, I.cell x b e⟩, fun q => absurd (Lf (.inl q)) (Nat.lt_irrefl _), List.mem_cons_self, fun x b e q => absurd (Lf (.inl q)) (Nat.not_lt.mpr (Nat.le_of_lt (cmem e))),
        fun x y b e1 e2 => name_of_addr I.apart (mem_of_lookup e1) (mem_of_lookup e2), fun x k => ?_⟩
      · refine (zip_lookup e).elim fun i zz1 => zz1.elim fun h1 h2 => ?_; clear zz1
        refine (hxs.get h2).elim fun c zz1 => zz1.elim fun h3 h4 => ?_; clear zz1
        exact ⟨c, bindL_at k F.nodup h1 h3, h4.ext W⟩
      · refine (zip_lookup e).elim fun i zz1 => zz1.elim fun h1 h2 => ?_; clear zz1
        refine (hxs.get h2).elim fun c zz1 => zz1.elim fun h3 h4 => ?_; clear zz1
        have kn : env.kindOf (Str.ofString x) ≠ some .local := fun q => by rcases k with k | k <;> rw [k] at q <;> cases q
        have hc : env.kindOf (Str.ofString x) = some .cell := by
          rcases k with k | k
          · exact k
          · exfalso
            have := List.all_eq_true.mp F.nofree (Str.ofString x, .free) (mem_of_lookup ((kof _).symm.trans k))
            simp at this
        refine (Option.isSome_iff_exists.mp (cellsFrom_some (x := Str.ofString x) fd.scope.names (L + 1) [] (.inl hc))).elim fun b hb => ?_
        refine ⟨b, c, hb, ?_, h4.ext W⟩
        have := I.cell _ b hb
        rw [show bindC env.kindOf _ _ (Str.ofString x) = some c from bindC_at kn F.nodup h1 h3] at this
        exact this
      · rcases k with k | k
        · exact Option.isSome_iff_exists.mp (cellsFrom_some (x := x) fd.scope.names (L + 1) [] (.inl k))
        · exfalso
          have := List.all_eq_true.mp F.nofree (x, .free) (mem_of_lookup ((kof _).symm.trans k))
          simp at this
    have hA' : AOk C.down.d (A.deeper env) := ⟨hA.handled, by have := hA.depth; show A.depth + 1 + 2 * (C.d - 1) ≤ 900; exact as10 (by assumption) (by assumption) (by rfl), by have := hA.units; show A.units + 3 + 10 * (C.d - 1) ≤ 9000; exact as10 (by assumption) (by assumption) (by rfl)⟩
    have hE : EnvOk fd.scope env := ⟨rfl, F.kind, F.glob, F.bi⟩
    have fresh : ∀ {b}, L ≤ b → s.heap.get? b = none := fun {b} q => by
      cases e : s.heap.get? b with
      | none => rfl
      | some o => exact absurd (old e) (Nat.not_lt.mpr q)
    refine wpAny_mono (h (A.deeper env) env φ' s₁ ⟨hA', hE, rfl, rfl, R₁, V, fun x b e => cinφ e, I.toInCall.keep, fresh (Nat.le_refl _), fun x b e => fresh (Nat.le_of_lt (cmem e)), subφ, fun b q n => fresh (newφ q n), by rw [es], by rw [es]⟩) (fun f s₂ p => ?_) fun _ _ x => x.elim
    cases f <;> exact p
theorem code_fnE {a : Addr} {fd : FuncData} {names : List String} {body : List Stmt} {vs : List AV} {Q : AV → List AO → Prop} (O : C.B.Ok) (hd : 0 < C.d) (F : FnOk C.B a fd names body) (hl : vs.length = names.length)
    (h : EXf C.down fd (names.zip vs) H body fun f _ H1 => Q (retOf f) H1) {A : Around} {ρ φ : List Addr} {s : Shared} {xs : List Value} (hA : AOk C.d A) (R : Rep C.B ρ φ H s) (hxs : RVs C.B ρ φ s.heap vs xs) :
    codeAny (model C.B.prog C.B.w) A (.call (.ref a) ⟨xs, []⟩) (fun r s' => match r with | .ok (.ret v) => Post C ρ φ s Q v s' | .ok _ => False | .error e => False) s := code_enter O hd F hl hA R hxs fun A' env φ' s₁ N => by
  refine wpAny_mono (h A' env ρ φ' s₁ N.ao N.eo N.code N.qual N.rep N.vars N.own) (fun f s₂ zz1 => zz1.elim fun ρ₂ φ₂ H₂ v₂ f₂ X₂ R₂ V₂ rf q => ?_) fun _ _ x => x.elim
  have EX : Ext C.F ρ φ s.heap ρ₂ φ₂ s₂.heap := ⟨X₂.pre, fun b o e n => by
      refine (X₂.keep b o (N.keep b o e) n (fun z => by rw [z, N.newL] at e; cases e) (fun x _ z => by rw [N.newC _ _ z] at e; cases e)).elim fun q1 zz1 => zz1.elim fun q2 q3 => ?_; clear zz1
      exact ⟨q1, q2, fun m => q3 fun z => by rw [N.newφ _ z m] at e; cases e⟩, fun b q => X₂.sub b (N.sub b q),
    fun i b hi e => (X₂.held i b hi e).trans (by refine (R.alive b (.inl (List.mem_of_getElem? e))).elim fun o q => ?_; rw [q]; exact N.keep b o q)⟩
  cases rf with
  | ret hv => exact ⟨ρ₂, φ₂, H₂, _, EX, R₂, hv, q⟩
  | next => exact ⟨ρ₂, φ₂, H₂, .none, EX, R₂, .none, q⟩
  | brk => exact ⟨ρ₂, φ₂, H₂, .none, EX, R₂, .none, q⟩
  | cont => exact ⟨ρ₂, φ₂, H₂, .none, EX, R₂, .none, q⟩
theorem code_fn {a : Addr} {fd : FuncData} {names : List String} {body : List Stmt} {vs : List AV} {Q : AV → List AO → Prop} (O : C.B.Ok) (hd : 0 < C.d) (F : FnOk C.B a fd names body) (hl : vs.length = names.length)
    (h : EXs C.down fd.scope (names.zip vs) H body fun f _ H1 => Q (retOf f) H1) {A : Around} {ρ φ : List Addr} {s : Shared} {xs : List Value} (hA : AOk C.d A) (R : Rep C.B ρ φ H s) (hxs : RVs C.B ρ φ s.heap vs xs) :
    codeAny (model C.B.prog C.B.w) A (.call (.ref a) ⟨xs, []⟩) (fun r s' => match r with | .ok (.ret v) => Post C ρ φ s Q v s' | .ok _ => False | .error e => False) s :=
  code_fnE O hd F hl (fun A env ρ φ s hA hE _ _ R V K => h A env ρ φ s hA hE R V K) hA R hxs
theorem Post.drop {ρ φ : List Addr} {s s' : Shared} {Q : AV → List AO → Prop} {v : Value} (R : Rep C.B ρ φ H s)
    (p : Post C ρ φ s (fun v H1 => H.length ≤ H1.length ∧ (∀ (i : Nat) o, i < H.length → H1[i]? = some o → H[i]? = some o ∨ ScpO H.length o) ∧ ∃ v', Frz H.length H1 v v' ∧ Q v' (H1.take H.length)) v s') : Post C ρ φ s Q v s' := by
  obtain ⟨ρ₂, φ₂, H₂, v₂, X, R₂, rv, hl, hs, v', hf, q⟩ := p
  rw [← R.len] at hl hs hf q
  refine ⟨ρ, φ₂, _, v', ⟨List.prefix_rfl, fun a o e n => let ⟨q1, q2, q3⟩ := X.keep a o e n; ⟨q1, n, q3⟩, X.sub, X.held⟩, R₂.drop X.pre hl (fun i o hi e => ?_), hf.ok R₂ X.pre rv, q⟩
  rcases hs i o hi e with z | z
  · have hi' : ρ[i]? = some ρ[i] := List.getElem?_eq_getElem hi
    exact (R.obj i o _ z hi').scp
  · exact z
theorem call_of_code {f : Value} {xs : List Value} {A : Around} {ρ φ : List Addr} {s : Shared} {Q : AV → List AO → Prop}
    (h : codeAny (model C.B.prog C.B.w) A (.call f ⟨xs, []⟩) (fun r s' => match r with | .ok (.ret v) => Post C ρ φ s Q v s' | .ok _ => False | .error e => False) s) : wpAny (model C.B.prog C.B.w) A (call f xs) (Post C ρ φ s Q) noE s :=
  wpAny_call (codeAny_mono h fun r s' z => by
    cases r with
    | ok f => cases f <;> exact z
    | error e => exact z)
theorem CALL_fn {a : Addr} {fd : FuncData} {names : List String} {body : List Stmt} {vs : List AV} {Q : AV → List AO → Prop} (O : C.B.Ok) (hd : 0 < C.d) (F : FnOk C.B a fd names body) (hl : vs.length = names.length)
    (h : EXs C.down fd.scope (names.zip vs) H body fun f _ H1 => Q (retOf f) H1) : CALL C H (.ref a) vs Q := fun A ρ φ s xs hA R hx => call_of_code (code_fn O hd F hl h hA R hx)
theorem CALL_drop {a : Addr} {fd : FuncData} {names : List String} {body : List Stmt} {vs : List AV} {Q : AV → List AO → Prop} (O : C.B.Ok) (hd : 0 < C.d) (F : FnOk C.B a fd names body) (hl : vs.length = names.length)
    (h : EXs C.down fd.scope (names.zip vs) H body fun f _ H1 => H.length ≤ H1.length ∧ (∀ (i : Nat) o, i < H.length → H1[i]? = some o → H[i]? = some o ∨ ScpO H.length o) ∧ ∃ v', Frz H.length H1 (retOf f) v' ∧ Q v' (H1.take H.length)) :
    CALL C H (.ref a) vs Q := fun A ρ φ s xs hA R hx => wpAny_mono (CALL_fn O hd F hl h A ρ φ s xs hA R hx) (fun v s' p => p.drop R) fun _ _ x => x
theorem CALL_pure {a : Addr} {fd : FuncData} {names : List String} {body : List Stmt} {vs : List AV} {Q : AV → List AO → Prop} (O : C.B.Ok) (hd : 0 < C.d) (F : FnOk C.B a fd names body) (hl : vs.length = names.length)
    (h : EXs C.down fd.scope (names.zip vs) H body fun f _ H1 => ∃ J, H1 = H ++ J ∧ ∃ v', Frz H.length H1 (retOf f) v' ∧ Q v' H) :
    CALL C H (.ref a) vs Q := CALL_drop O hd F hl (h.mono fun f _ H1 zz1 => zz1.elim fun J zz2 => zz2.elim fun e zz3 => zz3.elim fun v' zz4 => zz4.elim fun hf q => by
  subst e
  refine ⟨by rw [List.length_append]; exact Nat.le_add_right _ _, fun i o hi e => .inl (by rwa [List.getElem?_append_left hi] at e), v', hf, ?_⟩
  rw [List.take_left]; exact q)
end
end
section
section
variable {B : Base} {ρ φ : List Addr} {h : Heap}
theorem KeysAs.length : ∀ {as : List (String × AV)} {es : List DictEntry}, KeysAs as es → as.length = es.length
  | [], [], _ => rfl
  | [], _ :: _, x => x.elim
  | _ :: _, [], x => x.elim
  | _ :: as, _ :: es, x => by simp [KeysAs.length x.2]
theorem isStr_key {e : DictEntry} {y : String} {t : Tok} (k : e.key = .str (Str.ofString y) t) (x : String) : e.key.isStr (Str.ofString x) = (x == y) := by
  rw [k]
  show (Str.ofString y == Str.ofString x) = (x == y)
  cases h : x == y with
  | true => have : x = y := by simpa using h
            rw [this]; simp
  | false => have : x ≠ y := by simpa using h
             simp; exact fun q => this (ofString_inj q).symm
theorem getL_some {x : String} {v : AV} : ∀ {as : List (String × AV)} {es : List DictEntry}, KeysAs as es → RVs B ρ φ h (as.map (·.2)) (es.map (·.val)) → as.lookup x = some v → ∃ c, getL (Str.ofString x) es = some (some c) ∧ RV B ρ φ h v c
  | [], _, _, _, e => by simp at e
  | a :: as, [], k, _, _ => k.elim
  | a :: as, en :: es, k, r, e => by
    refine k.1.elim fun t hk => ?_
    cases r.inv with
    | cons hx hr =>
      rw [List.lookup_cons] at e
      unfold getL
      rw [List.find?_cons, isStr_key hk x]
      cases q : x == a.1 with
      | true => rw [q] at e; cases e; exact ⟨_, rfl, hx⟩
      | false =>
        rw [q] at e
        refine (getL_some k.2 hr e).elim fun c zz1 => zz1.elim fun h1 h2 => ?_; clear zz1
        refine ⟨c, ?_, h2⟩
        unfold getL at h1
        simp only []
        cases f : es.find? (·.key.isStr (Str.ofString x)) with
        | some e' => rw [f] at h1; exact h1
        | none =>
          rw [f] at h1
          simp only [] at h1
          split at h1 <;> cases h1
theorem noRefKeys : ∀ {as : List (String × AV)} {es : List DictEntry}, KeysAs as es → es.any (·.refKey) = false
  | [], [], _ => rfl
  | [], _ :: _, x => x.elim
  | _ :: _, [], x => x.elim
  | _ :: as, e :: es, x => by
    refine x.1.elim fun t hk => ?_
    rw [List.any_cons, noRefKeys x.2, DictEntry.refKey, hk]; rfl
theorem getL_none {x : String} : ∀ {as : List (String × AV)} {es : List DictEntry}, KeysAs as es → as.lookup x = none → getL (Str.ofString x) es = some none := by
  intro as es k e
  have hf : ∀ {as : List (String × AV)} {es : List DictEntry}, KeysAs as es → as.lookup x = none → es.find? (·.key.isStr (Str.ofString x)) = none := by
    intro as
    induction as with
    | nil => intro es k e; cases es with
      | nil => rfl
      | cons _ _ => exact k.elim
    | cons a as ih => intro es k e; cases es with
      | nil => exact k.elim
      | cons en es =>
        refine k.1.elim fun t hk => ?_
        rw [List.lookup_cons] at e
        rw [List.find?_cons, isStr_key hk x]
        cases q : x == a.1 with
        | true => rw [q] at e; cases e
        | false => rw [q] at e; exact ih k.2 e
  unfold getL
  rw [hf k e, noRefKeys k]; rfl
theorem putL_upd {x : String} {v : AV} {c : Value} {hs : Int} {t : Tok} (hv : RV B ρ φ h v c) : ∀ {as : List (String × AV)} {es : List DictEntry}, KeysAs as es → RVs B ρ φ h (as.map (·.2)) (es.map (·.val)) →
    KeysAs (upd x v as) (putL (Str.ofString x) hs (.str (Str.ofString x) t) c es) ∧ RVs B ρ φ h ((upd x v as).map (·.2)) ((putL (Str.ofString x) hs (.str (Str.ofString x) t) c es).map (·.val))
  | [], [], _, _ => ⟨⟨⟨t, rfl⟩, trivial⟩, .cons hv .nil⟩
  | [], _ :: _, k, _ => k.elim
  | _ :: _, [], k, _ => k.elim
  | a :: as, en :: es, k, r => by
    obtain ⟨t', hk⟩ := k.1
    cases r.inv with
    | cons hx hr =>
      unfold putL upd
      rw [isStr_key hk x]
      cases q : x == a.1 with
      | true =>
        have : x = a.1 := by simpa using q
        subst this
        exact ⟨⟨⟨t', hk⟩, k.2⟩, .cons hv hr⟩
      | false =>
        obtain ⟨h1, h2⟩ := putL_upd hv k.2 hr
        exact ⟨⟨⟨t', hk⟩, h1⟩, .cons hx h2⟩
end
theorem upd_length (x : String) (v : AV) : ∀ as : List (String × AV), (upd x v as).length ≤ as.length + 1
  | [] => by simp [upd]
  | (y, u) :: r => by
    have := upd_length x v r
    unfold upd; split <;> simp only [List.length_cons] <;> (first | exact ar47 (by assumption) | exact as1 (by assumption) | omega)
section
variable {C : Cx} {sc : Scope} {vars : Vars} {H : List AO}
noncomputable def GETA (C : Cx) (H : List AO) (o : AV) (name : Str) (v : AV) : Prop :=
  ∀ (A : Around) (ρ φ : List Addr) (s : Shared) (ov : Value) (ex : Bool) (Q : Value → Shared → Prop), AOk C.d A → Rep C.B ρ φ H s → RV C.B ρ φ s.heap o ov →
    (∀ c t, RV C.B ρ φ s.heap v c → Q c { s with toks := t }) → wpAny (model C.B.prog C.B.w) A (getAttr ov name ex) Q noE s
@[reducible] noncomputable def getaK (C : Cx) (attr : Str) (Q : AV → List AO → Prop) : AV → List AO → Prop := fun o H1 => ∃ v, GETA C H1 o attr v ∧ Q v H1
theorem EV_attr {value : Expr} {attr : Str} {pos : Pos} {Q : AV → List AO → Prop}
    (hev : ∀ env, eval (.Attribute value attr pos) env = (do
      let o ← eval value env
      standAt pos.atName
      let r ← holding [o] (getAttr o attr true)
      letTemporaryGo value o r
      pure r))
    (h : EV C sc vars H value (getaK C attr Q)) : EV C sc vars H (.Attribute value attr pos) Q := fun A env ρ φ s hA hE R V =>
  Attribute_any_ (wpAny_mono (h A env ρ φ s hA hE R V) (fun o s1 ⟨ρ1, φ1, H1, v1, X1, R1, rv, v, hg, q1⟩ =>
    hg A ρ1 φ1 s1 o true _ hA R1 rv fun c t rc => ⟨ρ1, φ1, H1, v, X1, R1.toks t, rc, q1⟩) fun _ _ x => x) (hev env)
noncomputable def attrOk (K : Frag) (c : Addr) (name : Str) : Bool := plainGet K c name && hasDictIn K c && (match findIn K (.ref c) name with
  | some attr => noGet K attr
  | none => false)
theorem attrOk_of {K : Frag} {c : Addr} {name : Str} (e : attrOk K c name = true) : plainGet K c name = true ∧ hasDictIn K c = true ∧ ∃ attr, findIn K (.ref c) name = some attr ∧ noGet K attr = true := by
  unfold attrOk at e
  simp only [Bool.and_eq_true] at e
  refine e.elim fun zz1 e3 => zz1.elim fun e1 e2 => ?_; clear zz1; (try clear e)
  split at e3
  · rename_i q; exact ⟨e1, e2, _, q, e3⟩
  · cases e3
theorem handed_val {w : Value} (hb : ∀ i, AV.val w ≠ .val (.builtin i)) : handedIn w = true := by
  cases w <;> first | rfl | exact absurd rfl (hb _)
theorem Sh.isRef {B : Base} {v : AV} {c : Value} {L : List (Addr × Obj)} {vs : List Value} (s : Sh B v c L vs) : ∃ a, c = .ref a :=
  Sh.rec (motive := fun _ c _ _ _ => ∃ a, c = .ref a) (fun _ => ⟨_, rfl⟩) (fun _ => ⟨_, rfl⟩) (fun _ _ _ => ⟨_, rfl⟩) (fun _ _ _ => ⟨_, rfl⟩) (fun _ => ⟨_, rfl⟩) ⟨_, rfl⟩ (fun _ => ⟨_, rfl⟩) s
theorem handed_of {v : AV} {c : Value} {ρ φ : List Addr} {h : Heap} (r : RV C.B ρ φ h v c) : (∀ i, v ≠ .val (.builtin i)) → handedIn c = true :=
  RV.casesOn (motive_1 := fun v c _ => (∀ i, v ≠ .val (.builtin i)) → handedIn c = true) r (fun e => At.rec (motive := fun v c _ => (∀ i, v ≠ .val (.builtin i)) → handedIn c = true) (fun _ => rfl) (fun _ _ => rfl) (fun _ _ _ => rfl) (fun _ _ _ => rfl) (fun _ => handed_val) e) (fun _ _ => rfl)
    (fun s _ _ _ => s.isRef.elim fun _ e => e ▸ rfl)
theorem inst_at {h : Heap} {a dx c : Addr} {es : List DictEntry} {n : Nat} (ho : h.get? a = some (instObj c dx)) (hd : h.get? dx = some (dictOf es n)) : W.InstAt h a (instObj c dx) c (some (dictOf es n)) := ⟨ho, rfl, rfl, hd⟩
theorem GETA_inst {c : Addr} {as : List (String × AV)} {x : String} {v : AV} (O : C.B.Ok) (hk : attrOk C.B.K c (Str.ofString x) = true) (hv : as.lookup x = some v) (hb : ∀ i, v ≠ .val (.builtin i)) : GETA C H (.inst c as) (Str.ofString x) v :=
  fun A ρ φ s ov ex Q hA R r k => by
    cases r.inv with
    | inst ho hd n n' hk' hx =>
      refine (attrOk_of hk).elim fun e1 zz1 => zz1.elim fun e2 zz2 => zz2.elim fun attr zz3 => zz3.elim fun e3 e4 => ?_; clear zz3 zz2 zz1
      refine (getL_some hk' hx hv).elim fun cv zz1 => zz1.elim fun g1 g2 => ?_; clear zz1
      exact get_value (R.inK O) (inst_at ho hd) (plainGet_of e1).1 (findObj_own e2 e3 e4 (by rw [lookIn_dict]; exact g1)) (handed_of g2 hb) (k _ _ g2)
theorem GETA_ref {c : Addr} {as : List (String × AV)} {x : String} {v : AV} {i d : Nat} (O : C.B.Ok) (hk : attrOk C.B.K c (Str.ofString x) = true) (hi : H[i]? = some (.inst c d)) (hd : H[d]? = some (.ns as)) (hv : as.lookup x = some v) (hb : ∀ i, v ≠ .val (.builtin i)) :
    GETA C H (.ref i) (Str.ofString x) v :=
  fun A ρ φ s ov ex Q hA R r k => by
    cases r.inv with
    | ref ha => cases (R.obj _ _ _ hi ha).inv with
      | inst ho hdx => cases (R.obj _ _ _ hd hdx).inv with
        | ns hd hk' hx =>
          refine (attrOk_of hk).elim fun e1 zz1 => zz1.elim fun e2 zz2 => zz2.elim fun attr zz3 => zz3.elim fun e3 e4 => ?_; clear zz3 zz2 zz1
          refine (getL_some hk' hx hv).elim fun cv zz1 => zz1.elim fun g1 g2 => ?_; clear zz1
          exact get_value (R.inK O) (inst_at ho hd) (plainGet_of e1).1 (findObj_own e2 e3 e4 (by rw [lookIn_dict]; exact g1)) (handed_of g2 hb) (k _ _ g2)
theorem GETA_cls {c : Addr} {x : Str} {mc a : Value} {v : AV} (O : C.B.Ok) (hm : typeIn C.B.K (.ref c) = some mc) (hr : readsIn C.B.K c mc = true) (hf : findCls C.B.K (.ref c) mc x = some (CFound.val a)) (hh : handedIn a = true)
    (hv : ∀ ρ φ h, RV C.B ρ φ h v a) : GETA C H (.val (.ref c)) x v := fun A ρ φ s ov ex Q hA R r k => by
  cases r.eqv
  exact cls_value (R.inK O) hr hf hh (k _ _ (hv _ _ _))
inductive BoundI (C : Cx) (x : String) (Q : AV → List AO → Prop) (o : AV) (H1 : List AO) : Prop
  | mk (i : Nat) (c : Addr) (d : Nat) (as : List (String × AV)) (f : Addr) (e : o = .ref i) (hi : H1[i]? = some (.inst c d)) (hd : H1[d]? = some (.ns as)) (hn : as.lookup x = none) (k1 : plainGet C.B.K c (Str.ofString x) = true) (k2 : hasDictIn C.B.K c = true)
    (k3 : findIn C.B.K (.ref c) (Str.ofString x) = some (some (.ref f))) (k4 : isFn C.B.K (.ref f) = true) (k5 : specialIn C.B.K (.ref f) "__get__" = some (some (.builtin "function.__get__"))) (k6 : takesIn C.B.K (.ref f) = some false)
    (k7 : copiedNames.contains (Str.ofString x) = false) (q : Q (.meth f o) H1)
theorem EV_bound {value : Expr} {x : String} {pos : Pos} {Q : AV → List AO → Prop} (O : C.B.Ok)
    (hev : ∀ env, eval (.Attribute value (Str.ofString x) pos) env = (do
      let o ← eval value env
      standAt pos.atName
      let r ← holding [o] (getAttr o (Str.ofString x) true)
      letTemporaryGo value o r
      pure r))
    (h : EV C sc vars H value (BoundI C x Q)) : EV C sc vars H (.Attribute value (Str.ofString x) pos) Q := fun A env ρ φ s hA hE R V =>
  Attribute_any_ (wpAny_mono (h A env ρ φ s hA hE R V) (fun o s1 ⟨ρ1, φ1, H1, v1, X1, R1, rv, b⟩ => by
    obtain ⟨i, c, d, as, f, e1, hi, hd, hn, k1, k2, k3, k4, k5, k6, k7, q1⟩ := b
    subst e1
    have rv' := rv
    cases rv.inv with
    | ref ha =>
      cases (R1.obj _ _ _ hi ha).inv with
      | inst ho hdx => cases (R1.obj _ _ _ hd hdx).inv with
        | ns hd hk' hx =>
          refine get_bind (R1.inK O) (inst_at ho hd) (plainGet_of k1).1 (findObj_fn k2 k3 k5 k6 k7 (by rw [lookIn_dict]; exact getL_none hk' hn)) (plainGet_of k1).2
            (wpAny_call (fn_get (s := { s1 with toks := s1.toks + 1 }) (R1.inK O) (beq_iff_eq.mp k4) (handed_on rfl ?_)))
          exact (post_push (C := C) R1 (o := methodObj (.ref f) (.ref _)) (v := .meth f (.ref i)) (fun X n => .meth (Heap.get?_push_size _ rfl) n (rv'.ext X)) q1).ext X1) fun _ _ x => x) (hev env)
noncomputable def methOk (K : Frag) (c : Addr) (name : Str) (f : Addr) : Bool := plainGet K c name && findIn K (.ref c) name == some (some (.ref f)) && typeIn K (.ref f) == some (.type "function")
theorem methOk_of {K : Frag} {c f : Addr} {name : Str} (e : methOk K c name f = true) : plainGet K c name = true ∧ findIn K (.ref c) name = some (some (.ref f)) ∧ typeIn K (.ref f) = some (.type "function") := by
  unfold methOk at e
  simp only [Bool.and_eq_true, beq_iff_eq] at e
  exact ⟨e.1.1, e.1.2, e.2⟩
theorem GETM_inst {c f : Addr} {as : List (String × AV)} {x : String} (O : C.B.Ok) (hk : methOk C.B.K c (Str.ofString x) f = true) (hv : as.lookup x = none) : GETM C H (.inst c as) (Str.ofString x) (.ref f) :=
  fun A ρ φ s ov pl Q hA R r q => by
    cases r.inv with
    | inst ho hd n n' hk' hx =>
      refine (methOk_of hk).elim fun e1 zz1 => zz1.elim fun e2 e3 => ?_; clear zz1
      refine method_fn (R.inK O) (inst_at ho hd) (plainGet_of e1).1 (plainGet_of e1).2 e2 e3 ?_ q
      show (lookIn _ (dictOf _ _)).map _ = _
      rw [lookIn_dict, getL_none hk' hv]; rfl
theorem GETM_ref {c f : Addr} {as : List (String × AV)} {x : String} {i d : Nat} (O : C.B.Ok) (hk : methOk C.B.K c (Str.ofString x) f = true) (hi : H[i]? = some (.inst c d)) (hd : H[d]? = some (.ns as)) (hv : as.lookup x = none) : GETM C H (.ref i) (Str.ofString x) (.ref f) :=
  fun A ρ φ s ov pl Q hA R r q => by
    cases r.inv with
    | ref ha => cases (R.obj _ _ _ hi ha).inv with
      | inst ho hdx => cases (R.obj _ _ _ hd hdx).inv with
        | ns hd hk' hx =>
          refine (methOk_of hk).elim fun e1 zz1 => zz1.elim fun e2 e3 => ?_; clear zz1
          refine method_fn (R.inK O) (inst_at ho hd) (plainGet_of e1).1 (plainGet_of e1).2 e2 e3 ?_ q
          show (lookIn _ (dictOf _ _)).map _ = _
          rw [lookIn_dict, getL_none hk' hv]; rfl
noncomputable def SETA (C : Cx) (H : List AO) (o v : AV) (name : Str) (Q : List AO → Prop) : Prop :=
  ∀ (A : Around) (ρ φ : List Addr) (s : Shared) (ov c : Value), AOk C.d A → Rep C.B ρ φ H s → RV C.B ρ φ s.heap o ov → RV C.B ρ φ s.heap v c →
    wpAny (model C.B.prog C.B.w) A (setAttr ov name c) (fun _ => PostH C ρ φ s Q) noE s
noncomputable def storeOk (K : Frag) (c : Addr) (name : Str) : Bool := findIn K (.ref c) "__setattr__" == some (some (.builtin "object.__setattr__")) && plainOver K c && takerIn K c name == some none && hasDictIn K c
theorem storeOk_of {K : Frag} {c : Addr} {name : Str} (e : storeOk K c name = true) : findIn K (.ref c) "__setattr__" = some (some (.builtin "object.__setattr__")) ∧ plainOver K c = true ∧ takerIn K c name = some none ∧ hasDictIn K c = true := by
  unfold storeOk at e
  simp only [Bool.and_eq_true, beq_iff_eq] at e
  exact ⟨e.1.1.1, e.1.1.2, e.1.2, e.2⟩
theorem SETA_ref {c : Addr} {as : List (String × AV)} {x : String} {v : AV} {i d : Nat} {Q : List AO → Prop} (O : C.B.Ok) (hk : storeOk C.B.K c (Str.ofString x) = true) (hi : H[i]? = some (.inst c d)) (hd : H[d]? = some (.ns as)) (hF : d ∉ C.F) (hz : as.length ≤ 900)
    (q : Q (H.set d (.ns (upd x v as)))) : SETA C H (.ref i) v (Str.ofString x) Q := fun A ρ φ s ov cv hA R ro rv => by
  cases ro.inv with
  | ref ha => cases (R.obj _ _ _ hi ha).inv with
    | inst ho hdx => cases (R.obj _ _ _ hd hdx).inv with
      | ns hd hk' hx =>
        rename_i a dx es n
        refine (storeOk_of hk).elim fun e1 zz1 => zz1.elim fun e2 zz2 => zz2.elim fun e3 e4 => ?_; clear zz2 zz1
        have X := R.inK O
        have I := inst_at ho hd
        refine set_plain X I e1 (osa_open (s := { s with toks := s.toks + 1 }) X I e2 e3 fun b => ?_)
        refine (any_some e4).elim fun cd zz1 => zz1.elim fun hc hd' => ?_; clear zz1
        refine wpAny_bind (wpAny_pure (wpAny_bind (wpAny_bind (wpAny_loadPart ho (wpAny_bind (looks_clsIn X hc _ _ _ _ (fun _ _ e => e) ?_))))))
        rw [hd']
        refine wpAny_pure (a := some dx) (wpAny_bind (wpAny_pure (wpAny_bind ?_)))
        unfold nsSet
        refine wpAny_bind (wpAny_bind (wpAny_askSetting (wpAny_pure (wpAny_bind (wpAny_mkText (wpAny_bind (wpAny_loadPart hd ?_)))))))
        dsimp only
        have c : (!es.toArray.any (·.key.isStr (Str.ofString x)) && es.toArray.any (·.refKey)) = false := by
          rw [← Array.any_toList, ← Array.any_toList, noRefKeys hk', Bool.and_false]
        rw [aRefKeyMayBeTheName_at, c]
        refine wpAny_updatePart hd ?_
        have hput := putName_dict (Str.ofString x) (PyData.keyHash C.B.w.params (Str.ofString x)) (.str (Str.ofString x) (s.toks + 1)) cv es n
        refine (putL_upd (hs := PyData.keyHash C.B.w.params (Str.ofString x)) (t := s.toks + 1) (x := x) rv hk' hx).elim fun p1 p2 => ?_
        have hl : (putL (Str.ofString x) (PyData.keyHash C.B.w.params (Str.ofString x)) (.str (Str.ofString x) (s.toks + 1)) cv es).length ≤ 901 := by
          rw [← p1.length]
          have := upd_length x v as
          lia
        have hnew : (s.heap.update dx (Obj.putName (Str.ofString x) (PyData.keyHash C.B.w.params (Str.ofString x)) (.str (Str.ofString x) (s.toks + 1)) cv)).get? dx = some (dictOf (putL (Str.ofString x) (PyData.keyHash C.B.w.params (Str.ofString x)) (.str (Str.ofString x) (s.toks + 1)) cv es) (putN (Str.ofString x) es n)) := by
          have := Heap.get?_update_self (Obj.putName (Str.ofString x) (PyData.keyHash C.B.w.params (Str.ofString x)) (.str (Str.ofString x) (s.toks + 1)) cv) hd (by rw [hput]; rfl)
          rw [hput] at this
          exact this
        refine wpAny_bind (wpAny_lookBehind (o := dictOf _ _) hnew (pastItsLine_dict (by rw [List.size_toArray, sizeLine_eq]; exact ar1 (by assumption) (by rfl))) ?_)
        obtain ⟨X', R'⟩ := R.set (F := C.F) hdx hF (Heap.SameBut.update s.heap dx (Obj.putName (Str.ofString x) (PyData.keyHash C.B.w.params (Str.ofString x)) (.str (Str.ofString x) (s.toks + 1)) cv)) (.ns (upd x v as)) ⟨_, hnew⟩
          (fun W => .ns hnew p1 (p2.ext W)) (g := s.gens) (d := s.drawn) (t := s.toks + 1 + 1) (os := s.os)
        exact wpAny_pure ⟨ρ, φ, _, X', R', q⟩
@[reducible] noncomputable def set2K (C : Cx) (v : AV) (attr : Str) (vars : Vars) (Q : AF → Vars → List AO → Prop) : AV → List AO → Prop := fun ov H2 => SETA C H2 ov v attr fun H3 => Q .next vars H3
@[reducible] noncomputable def setK (C : Cx) (sc : Scope) (vars : Vars) (o : Expr) (attr : Str) (Q : AF → Vars → List AO → Prop) : AV → List AO → Prop := fun v H1 => EV C sc vars H1 o (set2K C v attr vars Q)
theorem EX_attr {o : Expr} {attr : Str} {pos pos' : Pos} {value : Expr} {Q : AF → Vars → List AO → Prop} (hsw : ∀ env, swapsWith value (some (.Attribute o attr pos')) pos.line env = pure false)
    (h : EV C sc vars H value (setK C sc vars o attr Q)) : EX C sc vars H (.Assign [.Attribute o attr pos'] value pos) Q := fun A env ρ φ s hA hE R V K =>
  plainObj_wpAny_Assign_Attribute (wpAny_mono (h A env ρ φ s hA hE R V) (fun v s1 zz1 => zz1.elim fun ρ1 φ1 H1 v1 X1 R1 rv q1 => wpAny_mono (q1 A env ρ1 φ1 s1 hA hE R1 (V.ext X1)) (fun ov s2 zz1 => zz1.elim fun ρ2 φ2 H2 v2 X2 R2 rv2 q2 =>
    wpAny_mono (q2 A ρ2 φ2 s2 ov v hA R2 rv2 (rv.ext X2.w)) (fun _ s3 zz1 => zz1.elim fun ρ3 φ3 H3 X3 R3 q3 => ⟨ρ3, φ3, H3, vars, .next, ((X1.trans X2).trans X3).s, R3, V.ext ((X1.trans X2).trans X3), .next, q3⟩) fun _ _ x => x) fun _ _ x => x) fun _ _ x => x) (hsw env)
theorem EX_augattr {o : Expr} {attr : Str} {op : Operator} {tpos pos : Pos} {value : Expr} {Q : AF → Vars → List AO → Prop}
    (h : EV C sc vars H o fun ov H1 => ∃ old, GETA C H1 ov attr old ∧ EV C sc vars H1 value fun v H2 => OP2 C H2 old v (inplaceOp op) fun w H3 => SETA C H3 ov w attr fun H4 => Q .next vars H4) :
    EX C sc vars H (.AugAssign (.Attribute o attr tpos) op value pos) Q := fun A env ρ φ s hA hE R V K =>
  wpAny_AugAssign_AttributeAny (wpAny_mono (h A env ρ φ s hA hE R V) (fun ov s1 ⟨ρ1, φ1, H1, v1, X1, R1, rv, old, hg, q1⟩ =>
    hg A ρ1 φ1 s1 ov true _ hA R1 rv fun c t rc => wpAny_mono (q1 A env ρ1 φ1 { s1 with toks := t } hA hE (R1.toks t) (V.ext X1)) (fun v s2 zz1 => zz1.elim fun ρ2 φ2 H2 v2 X2 R2 rv2 q2 =>
      wpAny_mono (q2 A ρ2 φ2 s2 c v hA R2 (rc.ext X2.w) rv2) (fun w s3 zz1 => zz1.elim fun ρ3 φ3 H3 v3 X3 R3 rv3 q3 =>
        wpAny_mono (q3 A ρ3 φ3 s3 ov w hA R3 ((rv.ext X2.w).ext X3.w) rv3) (fun _ s4 zz1 => zz1.elim fun ρ4 φ4 H4 X4 R4 q4 =>
          have XX : Ext C.F ρ φ s.heap ρ4 φ4 s4.heap := ((X1.trans X2).trans X3).trans X4
          ⟨ρ4, φ4, H4, vars, .next, XX.s, R4, V.ext XX, .next, q4⟩) fun _ _ x => x) fun _ _ x => x) fun _ _ x => x) fun _ _ x => x)
structure ClsOk (B : Base) (c fI : Addr) : Prop where
  makes : makesIn B.K c = true
  init : findIn B.K (.ref c) "__init__" = some (some (.ref fI))
  fn : typeIn B.K (.ref fI) = some (.type "function")
theorem CALL_new {c fI : Addr} {fd : FuncData} {names : List String} {body : List Stmt} {vs : List AV} {Q : AV → List AO → Prop} (O : C.B.Ok) (hd : 1 < C.d) (K : ClsOk C.B c fI) (F : FnOk C.B fI fd names body) (hl : vs.length + 1 = names.length)
    (h : EXs C.down.down fd.scope (names.zip (.ref (H.length + 1) :: vs)) (H ++ [.ns []] ++ [.inst c H.length]) body fun f _ H1 => retOf f = .none ∧ Q (.ref (H.length + 1)) H1) : CALL C H (.ref c) vs Q := fun A ρ φ s xs hA R hx => by
  refine (R.new (F := C.F) emptyDict (.ns []) rfl (fun X => .ns (es := []) (n := 0) (Heap.get?_push_size _ rfl) trivial .nil) (g := s.gens) (d := s.drawn) (t := s.toks) (os := s.os)).elim fun X1 R1 => ?_
  have e0 : (ρ ++ [s.heap.objs.size])[H.length]? = some s.heap.objs.size := by rw [← R.len, List.getElem?_append_right (Nat.le_refl _), Nat.sub_self]; rfl
  obtain ⟨X2, R2⟩ := R1.new (F := C.F) (instObj c s.heap.objs.size) (.inst c H.length) rfl (fun X => .inst (Heap.get?_push_size _ rfl) (getρ_of (List.prefix_append _ _) e0)) (g := s.gens) (d := s.drawn) (t := s.toks) (os := s.os)
  have hsz : (s.heap.push emptyDict).objs.size = s.heap.objs.size + 1 := Heap.size_push ..
  have XX := X1.trans X2
  simp only [hsz] at R2 X2 XX
  have e1 : (ρ ++ [s.heap.objs.size] ++ [s.heap.objs.size + 1])[H.length + 1]? = some (s.heap.objs.size + 1) := by
    rw [List.getElem?_append_right (by simp [R.len]), List.length_append, R.len]; simp
  have hA1 : AOk C.down.d (A.under (.builtin "type.__call__" ⟨.ref c :: xs, []⟩)) := ⟨hA.handled, by
      have := hA.depth
      show A.depth + 1 + 2 * (C.d - 1) ≤ 900; exact as12 (by assumption) (by assumption) (by rfl), by have := hA.units; show A.units + 1 + 10 * (C.d - 1) ≤ 9000; exact as12 (by assumption) (by assumption) (by rfl)⟩
  refine wpAny_call (make_core (h := s.heap) (makes_of (R.inK O) K.makes) (looks_findIn (R.inK O) K.init) (fun self => bind_fn (R.inK O) self K.fn) (.inl rfl) ?_)
  refine codeAny_mono (code_fn (C := C.down) (vs := .ref (H.length + 1) :: vs) (Q := fun v H1 => v = .none ∧ Q (.ref (H.length + 1)) H1) O (by show 0 < C.d - 1; exact ar11 (by assumption) (by rfl)) F (by simpa using hl) h hA1 R2 (.cons (.ref e1) (hx.ext XX.w))) fun r s' z => ?_
  cases r with
  | error e => exact z.elim
  | ok f => cases f with
    | ret v =>
      obtain ⟨ρ', φ', H', v', X', R', rv, e, q⟩ := z
      subst e
      cases rv.inv
      exact ⟨rfl, ρ', φ', H', .ref (H.length + 1), XX.trans X', R', .ref (getρ_of X'.pre e1), q⟩
    | _ => exact z.elim
end
end
section
section
variable {C : Cx} {sc : Scope} {vars : Vars} {H : List AO}
theorem EV_list {es : List Expr} {pos : Pos} {Q : AV → List AO → Prop} (hp : plainArgs es = true) (h : EVs C sc vars H es fun vs H1 => vs.length ≤ 16777216 ∧ Q (.list vs) H1) : EV C sc vars H (.List es pos) Q := fun A env ρ φ s hA hE R V =>
  wpAny_List (wpAny_mono (evs_ok es hp h hA hE R V) (fun vs s1 ⟨ρ1, φ1, H1, v1, X1, R1, rv, hl, q1⟩ => ⟨sz_ok (rv.length ▸ hl), (post_push (C := C) R1 (v := .list v1)
    (fun X n => .list ⟨0, Heap.get?_push_size _ rfl⟩ n (by simpa using rv.ext X)) q1).ext X1⟩) fun _ _ x => x)
theorem EV_listM {es : List Expr} {pos : Pos} {Q : AV → List AO → Prop} (hp : plainArgs es = true) (h : EVs C sc vars H es fun vs H1 => vs.length ≤ 16777216 ∧ Q (.ref H1.length) (H1 ++ [.list vs])) : EV C sc vars H (.List es pos) Q := fun A env ρ φ s hA hE R V =>
  wpAny_List (wpAny_mono (evs_ok es hp h hA hE R V) (fun vs s1 ⟨ρ1, φ1, H1, v1, X1, R1, rv, hl, q1⟩ => ⟨sz_ok (rv.length ▸ hl), (post_new (C := C) R1 (ao := .list v1) rfl
    (fun X => .list ⟨0, Heap.get?_push_size _ rfl⟩ (by simpa using rv.ext X)) q1).ext X1⟩) fun _ _ x => x)
@[reducible] noncomputable def tupK (Q : AV → List AO → Prop) : List AV → List AO → Prop := fun vs H1 => vs.length ≤ 16777216 ∧ Q (.tup vs) H1
theorem EV_tuple {es : List Expr} {k : Nat} {pos : Pos} {Q : AV → List AO → Prop} (hp : plainArgs es = true) (h : EVs C sc vars H es (tupK Q)) : EV C sc vars H (.Tuple es k pos) Q := fun A env ρ φ s hA hE R V =>
  wpAny_Tuple (wpAny_mono (evs_ok es hp h hA hE R V) (fun vs s1 ⟨ρ1, φ1, H1, v1, X1, R1, rv, hl, q1⟩ => ⟨sz_ok (rv.length ▸ hl), (post_push (C := C) R1 (v := .tup v1)
    (fun X n => .tup ⟨_, Heap.get?_push_size _ rfl, rfl, 0, rfl⟩ n (by simpa using rv.ext X)) q1).ext X1⟩) fun _ _ x => x)
theorem RVs.size {B : Base} {ρ φ : List Addr} {h : Heap} {xs : List AV} {vs : Array Value} (r : RVs B ρ φ h xs vs.toList) : vs.size = xs.length := by rw [r.length, Array.length_toList]
theorem seqIndex_of {i : Int} {n : Nat} (h0 : 0 ≤ i) (h : i.toNat < n) : seqIndex? i n = some i.toNat := by
  unfold seqIndex?
  have z : ¬ i < 0 := by lia
  simp only [z, if_false]
  rw [if_pos]
  simp
  lia
noncomputable def SUB (C : Cx) (H : List AO) (o i : AV) (Q : AV → List AO → Prop) : Prop :=
  ∀ (A : Around) (ρ φ : List Addr) (s : Shared) (x y : Value), AOk C.d A → Rep C.B ρ φ H s → RV C.B ρ φ s.heap o x → RV C.B ρ φ s.heap i y →
    SubscriptOn (model C.B.prog C.B.w) A x y (Post C ρ φ s Q) noE s
@[reducible] noncomputable def sub2K (C : Cx) (o : AV) (Q : AV → List AO → Prop) : AV → List AO → Prop := fun i H2 => SUB C H2 o i Q
@[reducible] noncomputable def subK (C : Cx) (sc : Scope) (vars : Vars) (slice : Expr) (Q : AV → List AO → Prop) : AV → List AO → Prop := fun o H1 => EV C sc vars H1 slice (sub2K C o Q)
theorem EV_sub {value slice : Expr} {pos : Pos} {Q : AV → List AO → Prop}
    (hev : ∀ env, eval (.Subscript value slice pos) env = (do
      let o ← eval value env
      let i ← holding [o] (eval slice env)
      standAt pos
      let r ← subscripted slice (← getitemInPython o) o i
      letTemporaryGo value o r
      pure r))
    (hsl : ∀ o i, subscripted slice false o i = operate [o, i] (getItem o i))
    (h : EV C sc vars H value (subK C sc vars slice Q)) : EV C sc vars H (.Subscript value slice pos) Q := fun A env ρ φ s hA hE R V => by
  rw [hev]
  refine wpAny_bind (wpAny_mono (h A env ρ φ s hA hE R V) (fun o s1 ⟨ρ1, φ1, H1, v1, X1, R1, rv, q1⟩ => ?_) fun _ _ x => x)
  refine wpAny_bind (wpAny_holding (wpAny_mono (q1 A env ρ1 φ1 s1 hA hE R1 (V.ext X1)) (fun i s2 ⟨ρ2, φ2, H2, v2, X2, R2, rv2, q2⟩ => wpAny_bind (wpAny_standAt ?_)) fun _ _ x => x))
  obtain ⟨T, id, hl, hT, hw⟩ := q2 A ρ2 φ2 s2 o i hA R2 (rv.ext X2.w) rv2
  have hgi : wpAny (model C.B.prog C.B.w) A (getitemInPython o) (fun b s' => b = false ∧ s' = s2) noE s2 := by
    unfold getitemInPython
    exact wpAny_bind (wpAny_specialOf hT hl (wpAny_pure ⟨rfl, rfl⟩))
  refine wpAny_bind (wpAny_mono hgi (fun b s' hb => ?_) fun _ _ x => x)
  refine hb.elim fun zz1 zz2 => ?_; (try clear hb); (first | subst zz1 | cases zz1); (first | subst zz2 | cases zz2)
  rw [hsl]
  refine wpAny_bind (wpAny_operate' (wpAny_mono hw (fun r s3 p => ?_) fun _ _ x => x))
  exact wpAny_bind (wpAny_letTemporaryGo (wpAny_pure (p.ext (X1.trans X2))))
theorem SUB_list {xs : List AV} {i : Int} {v : AV} {Q : AV → List AO → Prop} (h0 : 0 ≤ i) (hv : xs[i.toNat]? = some v) (hz : xs.length ≤ 16777216) (q : Q v H) : SUB C H (.list xs) (.int i) Q := fun A ρ φ s x y hA R rx ry => by
  cases ry.inv
  cases rx.inv with
  | list ho hn hx =>
    refine (hx.get hv).elim fun c zz1 => zz1.elim fun e r => ?_; clear zz1
    have il := ho.isList
    have hi := lt_of_get hv
    exact ⟨_, _, list_getitem_lookup, il.typeIs, wpAny_getItem_list il h0 (by lia) (by simpa using e) (post_pure R r q)⟩
theorem SUB_rlist {k : Nat} {xs : List AV} {i : Int} {v : AV} {Q : AV → List AO → Prop} (hk : H[k]? = some (.list xs)) (h0 : 0 ≤ i) (hv : xs[i.toNat]? = some v) (hz : xs.length ≤ 16777216) (q : Q v H) : SUB C H (.ref k) (.int i) Q := fun A ρ φ s x y hA R rx ry => by
  cases ry.inv
  cases rx.inv with
  | ref ha => cases (R.obj _ _ _ hk ha).inv with
    | list ho hx =>
      refine (hx.get hv).elim fun c zz1 => zz1.elim fun e r => ?_; clear zz1
      have il := ho.isList
      have hi := lt_of_get hv
      exact ⟨_, _, list_getitem_lookup, il.typeIs, wpAny_getItem_list il h0 (by lia) (by simpa using e) (post_pure R r q)⟩
theorem SUB_last {k : Nat} {xs : List AV} {v : AV} {Q : AV → List AO → Prop} (hk : H[k]? = some (.list xs)) (hv : xs[xs.length - 1]? = some v) (hz : xs.length ≤ 16777216) (q : Q v H) : SUB C H (.ref k) (.int (-1)) Q := fun A ρ φ s x y hA R rx ry => by
  cases ry.inv
  cases rx.inv with
  | ref ha => cases (R.obj _ _ _ hk ha).inv with
    | list ho hx =>
      rename_i vs
      refine (hx.get hv).elim fun c zz1 => zz1.elim fun e r => ?_; clear zz1
      have il := ho.isList
      have hi := lt_of_get hv
      have hl : vs.size = xs.length := by rw [hx.length, Array.length_toList]
      refine ⟨_, _, list_getitem_lookup, il.typeIs, wpAny_getItem_list_neg il (by exact Int.le_refl _) (by lia) (by exact ai1) (x := c) ?_ (post_pure R r q)⟩
      rw [show ((-1 : Int) + (vs.size : Int)).toNat = xs.length - 1 by lia]
      simpa using e
theorem SUB_tup {xs : List AV} {i : Int} {v : AV} {Q : AV → List AO → Prop} (h0 : 0 ≤ i) (hv : xs[i.toNat]? = some v) (hz : xs.length ≤ 16777216) (q : Q v H) : SUB C H (.tup xs) (.int i) Q := fun A ρ φ s x y hA R rx ry => by
  cases ry.inv
  cases rx.inv with
  | tup ho hn hx =>
    rename_i vs
    refine (hx.get hv).elim fun c zz1 => zz1.elim fun e r => ?_; clear zz1
    have hi := lt_of_get hv
    have hl : vs.size = xs.length := by rw [hx.length, Array.length_toList]
    refine ⟨_, _, PySem.F.slot_tuple_getitem.lookup, ho.typeIs, getItem_tuple ho (by lia) (by lia) (j := i.toNat) (seqIndex_of h0 (by exact as18 (by assumption) (by assumption))) (by simpa using e) (post_pure R r q)⟩
theorem SUB_str {l : List Nat} {i : Int} {c : Nat} {Q : AV → List AO → Prop} (h0 : 0 ≤ i) (hv : l[i.toNat]? = some c) (hz : l.length ≤ 16777216) (q : Q (.str [c]) H) : SUB C H (.str l) (.int i) Q := fun A ρ φ s x y hA R rx ry => by
  cases ry.inv
  cases rx.inv
  have hi := lt_of_get hv
  refine ⟨_, _, PySem.F.slot_str_getitem.lookup, typeIs_str _ _ _, P.getItem_str (c := c) (by simp; lia) ?_ (post_toks R (.str _ _) q)⟩
  have e : seqIndex? i (sOf l).length = some i.toNat := seqIndex_of h0 (by show _ < l.toArray.size; simpa using hi)
  rw [e]
  simpa using hv
theorem keyI_lookup {B : Base} {ρ φ : List Addr} {h : Heap} {k : Int} : ∀ {es : List (Int × AV)} {kvs : List (Int × Value)}, kvs.map (·.1) = es.map (·.1) → RVs B ρ φ h (es.map (·.2)) (kvs.map (·.2)) →
    (∀ v, es.lookup k = some v → ∃ c, valueAt kvs k = some c ∧ RV B ρ φ h v c) ∧ (es.lookup k = none → valueAt kvs k = none)
  | [], [], _, _ => ⟨fun v e => by simp at e, fun _ => rfl⟩
  | [], _ :: _, h, _ => by cases h
  | _ :: _, [], h, _ => by cases h
  | e :: es, kv :: kvs, hk, r => by
    rw [List.map_cons, List.map_cons, List.cons.injEq] at hk
    cases r.inv with
    | cons hx hr =>
      refine (keyI_lookup (k := k) hk.2 hr).elim fun i1 i2 => ?_
      unfold valueAt at i1 i2 ⊢
      rw [List.find?_cons, List.lookup_cons]
      by_cases q : kv.1 = k
      · have : (k == e.1) = true := by rw [← hk.1, q]; simp
        rw [this]
        simp only [q, decide_true, Option.map_some]
        exact ⟨fun v e' => by cases e'; exact ⟨_, rfl, hx⟩, fun e' => by cases e'⟩
      · have q' : (k == e.1) = false := by rw [← hk.1]; simpa using fun z => q z.symm
        rw [q']
        simp only [q, decide_false]
        exact ⟨i1, i2⟩
theorem dictTypeIs {prog : Program} {w : World} {K : Type} [DecidableEq K] {knd : PySem.KeyKind prog w K} {s : Shared} {a : Addr} {kvs : List (K × Value)} (x : s.heap.DictOf knd a kvs) : s.TypeIs (.ref a) "dict" := x.mapOf.typeIs
theorem SUB_dictI {es : List (Int × AV)} {k : Int} {v : AV} {Q : AV → List AO → Prop} (hv : es.lookup k = some v) (q : Q v H) : SUB C H (.dictI es) (.int k) Q := fun A ρ φ s x y hA R rx ry => by
  cases ry.inv
  cases rx.inv with
  | dictI ho hs hn hk hx =>
    refine ((keyI_lookup (k := k) hk hx).1 v hv).elim fun c zz1 => zz1.elim fun e r => ?_; clear zz1
    exact ⟨_, _, PySem.F.slot_dict_getitem.lookup, dictTypeIs ho, wpAny_getItem_of (intKind_is _ _ k _) ho.mapOf e (post_toks R r q)⟩
theorem SUB_rdictI {i : Nat} {es : List (Int × AV)} {k : Int} {v : AV} {Q : AV → List AO → Prop} (hi : H[i]? = some (.dictI es)) (hv : es.lookup k = some v) (q : Q v H) : SUB C H (.ref i) (.int k) Q := fun A ρ φ s x y hA R rx ry => by
  cases ry.inv
  cases rx.inv with
  | ref ha => cases (R.obj _ _ _ hi ha).inv with
    | dictI ho hs hk hx =>
      refine ((keyI_lookup (k := k) hk hx).1 v hv).elim fun c zz1 => zz1.elim fun e r => ?_; clear zz1
      exact ⟨_, _, PySem.F.slot_dict_getitem.lookup, dictTypeIs ho, wpAny_getItem_of (intKind_is _ _ k _) ho.mapOf e (post_toks R r q)⟩
noncomputable def pslice {α : Type} (xs : List α) (lo hi : Option Int) : List α :=
  (xs.drop (lo.elim 0 (clipAt xs.length))).take (hi.elim xs.length (clipAt xs.length) - lo.elim 0 (clipAt xs.length))
noncomputable def EVo (C : Cx) (sc : Scope) (vars : Vars) (H : List AO) : Option Expr → (Option Int → List AO → Prop) → Prop
  | none, Q => Q none H
  | some e, Q => EV C sc vars H e fun v H1 => ∃ i, v = .int i ∧ Q (some i) H1
inductive PostO (C : Cx) (ρ φ : List Addr) (s : Shared) (Q : Option Int → List AO → Prop) (v : Value) (s' : Shared) : Prop
  | mk (ρ' φ' : List Addr) (H' : List AO) (i : Option Int) (X : Ext C.F ρ φ s.heap ρ' φ' s'.heap) (R : Rep C.B ρ' φ' H' s') (p : ∃ p : Option (Int × Tok), v = partValue p ∧ p.map (·.1) = i) (q : Q i H')
theorem PostO.elim {C : Cx} {ρ φ : List Addr} {s : Shared} {Q : Option Int → List AO → Prop} {v : Value} {s' : Shared} {goal : Prop} (it0 : PostO C ρ φ s Q v s') (k : ∀ (ρ' φ' : List Addr) (H' : List AO) (i : Option Int) (X : Ext C.F ρ φ s.heap ρ' φ' s'.heap) (R : Rep C.B ρ' φ' H' s') (p : ∃ p : Option (Int × Tok), v = partValue p ∧ p.map (·.1) = i) (q : Q i H'), goal) : goal := PostO.rec (motive := fun _ => goal) k it0
theorem evo_ok {e : Option Expr} {Q : Option Int → List AO → Prop} (h : EVo C sc vars H e Q) {A : Around} {env : Env} {ρ φ : List Addr} {s : Shared} (hA : AOk C.d A) (hE : EnvOk sc env) (R : Rep C.B ρ φ H s) (V : RVars C.B ρ φ env vars s.heap) :
    wpAny (model C.B.prog C.B.w) A (evalPart e env) (PostO C ρ φ s Q) noE s := by
  cases e with
  | none => rw [evalPart_none]; exact wpAny_pure ⟨ρ, φ, H, none, Ext.refl _ _ _ _, R, ⟨none, rfl, rfl⟩, h⟩
  | some e =>
    rw [evalPart_some]
    exact wpAny_mono (h A env ρ φ s hA hE R V) (fun v s1 ⟨ρ1, φ1, H1, v1, X1, R1, rv, i, e1, q1⟩ => by
      subst e1; cases rv.inv
      exact ⟨ρ1, φ1, H1, some i, X1, R1, ⟨some (i, _), rfl, rfl⟩, q1⟩) fun _ _ x => x
theorem isPart_of {p : Option (Int × Tok)} : IsPart (partValue p) (p.map (·.1)) := by
  cases p with
  | none => exact .none
  | some p => exact .int p.1 p.2
noncomputable def SLICE (C : Cx) (H : List AO) (o : AV) (lo hi st : Option Int) (Q : AV → List AO → Prop) : Prop :=
  ∀ (A : Around) (ρ φ : List Addr) (s : Shared) (x : Value) (sl : Addr) (l u t : Option (Int × Tok)), AOk C.d A → Rep C.B ρ φ H s → RV C.B ρ φ s.heap o x → s.heap.IsSliceOf sl (partValue l) (partValue u) (partValue t) →
    l.map (·.1) = lo → u.map (·.1) = hi → t.map (·.1) = st → SubscriptOn (model C.B.prog C.B.w) A x (.ref sl) (Post C ρ φ s Q) noE s
@[reducible] noncomputable def sl4K (C : Cx) (o : AV) (lo hi : Option Int) (Q : AV → List AO → Prop) : Option Int → List AO → Prop := fun st H4 => SLICE C H4 o lo hi st Q
@[reducible] noncomputable def sl3K (C : Cx) (sc : Scope) (vars : Vars) (step : Option Expr) (o : AV) (lo : Option Int) (Q : AV → List AO → Prop) : Option Int → List AO → Prop := fun hi H3 => EVo C sc vars H3 step (sl4K C o lo hi Q)
@[reducible] noncomputable def sl2K (C : Cx) (sc : Scope) (vars : Vars) (upper step : Option Expr) (o : AV) (Q : AV → List AO → Prop) : Option Int → List AO → Prop := fun lo H2 => EVo C sc vars H2 upper (sl3K C sc vars step o lo Q)
@[reducible] noncomputable def slK (C : Cx) (sc : Scope) (vars : Vars) (lower upper step : Option Expr) (Q : AV → List AO → Prop) : AV → List AO → Prop := fun o H1 => EVo C sc vars H1 lower (sl2K C sc vars upper step o Q)
theorem EV_slice {value : Expr} {lower upper step : Option Expr} {p pos : Pos} {Q : AV → List AO → Prop}
    (hev : ∀ env, eval (.Subscript value (.Slice lower upper step p) pos) env = (do
      let o ← eval value env
      let i ← holding [o] (eval (.Slice lower upper step p) env)
      standAt pos
      let r ← subscripted (.Slice lower upper step p) (← getitemInPython o) o i
      letTemporaryGo value o r
      pure r))
    (h : EV C sc vars H value (slK C sc vars lower upper step Q)) :
    EV C sc vars H (.Subscript value (.Slice lower upper step p) pos) Q := fun A env ρ φ s hA hE R V => by
  rw [hev]
  refine wpAny_bind (wpAny_mono (h A env ρ φ s hA hE R V) (fun o s1 zz1 => zz1.elim fun ρ1 φ1 H1 v1 X1 R1 rv q1 => ?_) fun _ _ x => x)
  have V1 := V.ext X1
  refine wpAny_bind (wpAny_holding (wpAny_Slice (wpAny_mono (evo_ok q1 hA hE R1 V1) (fun l s2 zz1 => zz1.elim fun ρ2 φ2 H2 lo X2 R2 zz2 q2 => zz2.elim fun pl zz3 => zz3.elim fun el el2 => wpAny_mono (evo_ok q2 hA hE R2 (V1.ext X2)) (fun u s3 zz1 => zz1.elim fun ρ3 φ3 H3 hi X3 R3 zz2 q3 => zz2.elim fun pu zz3 => zz3.elim fun eu eu2 =>
    wpAny_mono (evo_ok q3 hA hE R3 ((V1.ext X2).ext X3)) (fun t s4 ⟨ρ4, φ4, H4, st, X4, R4, ⟨pt, et, et2⟩, q4⟩ => ?_) fun _ _ x => x) fun _ _ x => x) fun _ _ x => x)))
  subst el eu et
  refine wpAny_bind (wpAny_standAt ?_)
  have R5 := R4.push { cls := .type "slice", data := .fields #[partValue pl, partValue pu, partValue pt] } (g := s4.gens) (d := s4.drawn) (t := s4.toks) (os := s4.os)
  have X5 : Ext C.F ρ4 φ4 s4.heap ρ4 φ4 (s4.heap.push { cls := .type "slice", data := .fields #[partValue pl, partValue pu, partValue pt] }) := ext_push R4 _
  refine (q4 A ρ4 φ4 _ o s4.heap.objs.size pl pu pt hA R5 ((((rv.ext X2.w).ext X3.w).ext X4.w).ext X5.w) (Heap.IsSliceOf.new _ _ _ _) el2 eu2 et2).elim fun T zz1 => zz1.elim fun id zz2 => zz2.elim fun hl zz3 => zz3.elim fun hT hw => ?_; clear zz3 zz2 zz1
  have hgi : wpAny (model C.B.prog C.B.w) A (getitemInPython o) (fun b s' => b = false ∧ s' = { s4 with heap := s4.heap.push { cls := .type "slice", data := .fields #[partValue pl, partValue pu, partValue pt] } }) noE
      { s4 with heap := s4.heap.push { cls := .type "slice", data := .fields #[partValue pl, partValue pu, partValue pt] } } := by
    unfold getitemInPython
    exact wpAny_bind (wpAny_specialOf hT hl (wpAny_pure ⟨rfl, rfl⟩))
  refine wpAny_bind (wpAny_mono hgi (fun b s' hb => ?_) fun _ _ x => x)
  refine hb.elim fun zz1 zz2 => ?_; (try clear hb); (first | subst zz1 | cases zz1); (first | subst zz2 | cases zz2)
  have fin : ∀ ops, wpAny (model C.B.prog C.B.w) A (operate ops (getItem o (.ref s4.heap.objs.size)) >>= fun r => letTemporaryGo value o r >>= fun _ => pure r) (Post C ρ φ s Q) noE
      { s4 with heap := s4.heap.push { cls := .type "slice", data := .fields #[partValue pl, partValue pu, partValue pt] } } := fun ops =>
    wpAny_bind (wpAny_operate' (wpAny_mono hw (fun r s3 p => wpAny_bind (wpAny_letTemporaryGo (wpAny_pure ((p.ext X5).ext (((X1.trans X2).trans X3).trans X4))))) fun _ _ x => x))
  cases step with
  | none => exact fin _
  | some e => exact fin _
theorem pslice_rv {B : Base} {ρ φ : List Addr} {h : Heap} {xs : List AV} {vs : Array Value} (r : RVs B ρ φ h xs vs.toList) (lo hi : Option Int) : RVs B ρ φ h (pslice xs lo hi) (slicePick vs lo hi none).toList := by
  rw [slicePick_plain]
  have hl : vs.size = xs.length := by rw [r.length, Array.length_toList]
  rw [hl]
  exact (r.drop _).take _
theorem SLICE_list {xs : List AV} {lo hi : Option Int} {Q : AV → List AO → Prop} (hz : xs.length ≤ 16777216) (q : Q (.list (pslice xs lo hi)) H) : SLICE C H (.list xs) lo hi none Q := fun A ρ φ s x sl l u t hA R rx hs e1 e2 e3 => by
  cases rx.inv with
  | list ho hn hx =>
    have ht : t = none := by cases t <;> first | rfl | cases e3
    subst e1 e2 ht
    have il := ho.isList
    exact ⟨_, _, list_getitem_lookup, il.typeIs, wpAny_getItem_list_slice il hs isPart_of isPart_of .none (by simp) (post_push (C := C) R (v := .list _) (fun X n => .list ⟨0, Heap.get?_push_size _ rfl⟩ n ((pslice_rv hx _ _).ext X)) q)
      (sz_ok (by rw [hx.size]; exact hz))⟩
theorem clipAt_le (n : Nat) (i : Int) : clipAt n i ≤ n := by
  refine Int.ofNat_le.mp ?_
  rw [clipAt_cast n i]
  exact Int.max_le.mpr ⟨Int.natCast_nonneg n, Int.min_le_right _ _⟩
theorem strPickLen {xs : List Nat} (l u : Option (Int × Tok)) (h : (slicePicked (sOf xs) l u none).length = xs.length) : xs = pslice xs (l.map (·.1)) (u.map (·.1)) := by
  have e : slicePicked (sOf xs) l u none = sliceRange (sliceBounds (l.map (·.1)) (u.map (·.1)) none xs.length).1 (sliceBounds (l.map (·.1)) (u.map (·.1)) none xs.length).2.1 (sliceBounds (l.map (·.1)) (u.map (·.1)) none xs.length).2.2 := by
    unfold slicePicked Builtin.Str.strSliceIndices sliceBounds
    show sliceRange _ _ _ = sliceRange _ _ _
    have : (sOf xs).length = xs.length := by show xs.toArray.size = _; simp
    rw [this]
    cases l <;> cases u <;> rfl
  rw [e, sliceBounds_plain] at h
  simp only [sliceRange_one, List.length_map, List.length_range] at h
  unfold pslice
  generalize ha : (l.map (·.1)).elim 0 (clipAt xs.length) = a at h ⊢
  have hb : (u.map (·.1)).elim xs.length (clipAt xs.length) ≤ xs.length := by
    cases u with
    | none => exact Nat.le_refl _
    | some u => exact clipAt_le _ _
  generalize (u.map (·.1)).elim xs.length (clipAt xs.length) = b at h hb ⊢
  cases xs with
  | nil => simp
  | cons x xs =>
    simp only [List.length_cons] at h hb
    have e1 : a = 0 := by lia
    have e2 : b = xs.length + 1 := by lia
    subst e1 e2
    rw [List.drop_zero, Nat.sub_zero, List.take_of_length_le (by simp)]
theorem strPick {xs : List Nat} (l u : Option (Int × Tok)) (t : Tok) : (slicePicked (sOf xs) l u none).filterMap ((sOf xs).cps[·]?) = pslice xs (l.map (·.1)) (u.map (·.1)) := by
  have e : slicePicked (sOf xs) l u none = sliceRange (sliceBounds (l.map (·.1)) (u.map (·.1)) none xs.length).1 (sliceBounds (l.map (·.1)) (u.map (·.1)) none xs.length).2.1 (sliceBounds (l.map (·.1)) (u.map (·.1)) none xs.length).2.2 := by
    unfold slicePicked Builtin.Str.strSliceIndices sliceBounds
    show sliceRange _ _ _ = sliceRange _ _ _
    have : (sOf xs).length = xs.length := by show xs.toArray.size = _; simp
    rw [this]
    cases l <;> cases u <;> rfl
  rw [e, sliceBounds_plain]
  simp only [sliceRange_one]
  rw [pick_run]
  unfold pslice
  simp
theorem SLICE_str {xs : List Nat} {lo hi : Option Int} {Q : AV → List AO → Prop} (hz : xs.length ≤ 16777216) (q : Q (.str (pslice xs lo hi)) H) : SLICE C H (.str xs) lo hi none Q := fun A ρ φ s x sl l u t hA R rx hs e1 e2 e3 => by
  cases rx.inv
  rename_i tx
  have ht : t = none := by cases t <;> first | rfl | cases e3
  subst e1 e2 ht
  refine ⟨_, _, PySem.F.slot_str_getitem.lookup, typeIs_str _ _ _, wpAny_getItem_str_slice (l := l) (u := u) (st := none) hs rfl ?_⟩
  have hp := strPick (xs := xs) l u tx
  unfold sliceMade
  split
  · rename_i hc
    simp only [Option.map_none, Option.getD_none, beq_self_eq_true, Bool.true_and, beq_iff_eq] at hc
    have hx : xs = pslice xs (l.map (·.1)) (u.map (·.1)) := strPickLen l u (hc.trans (by show xs.toArray.size = _; simp))
    rw [← hx] at q
    exact post_pure R (.str _ _) q
  · rw [hp]
    refine ⟨sz_ok ?_, post_toks R (.str _ _) q⟩
    show (pslice xs _ _).toArray.size ≤ _
    rw [List.size_toArray]
    unfold pslice
    rw [List.length_take, List.length_drop]
    lia
end
end
section
noncomputable def putA {K : Type} [DecidableEq K] (es : List (K × AV)) (k : K) (v : AV) : List (K × AV) :=
  if es.any (fun e => decide (e.1 = k)) then es.map fun e => if e.1 = k then (e.1, v) else e else es ++ [(k, v)]
section
variable {B : Base} {ρ φ : List Addr} {h : Heap}
theorem sOf_inj {a b : List Nat} (e : sOf a = sOf b) : a = b := by
  have := congrArg (fun s : Str => s.cps.toList) e; simpa using this
theorem putI_ok {k : Int} {v : AV} {c : Value} (hv : RV B ρ φ h v c) {es : List (Int × AV)} {kvs : List (Int × Value)} (hk : kvs.map (·.1) = es.map (·.1)) (r : RVs B ρ φ h (es.map (·.2)) (kvs.map (·.2))) :
    (stored kvs k c).map (·.1) = ((putA es k v).map (·.1)) ∧ RVs B ρ φ h ((putA es k v).map (·.2)) ((stored kvs k c).map (·.2)) := by
  have hany : kvs.any (fun kv => decide (kv.1 = k)) = es.any (fun e => decide (e.1 = k)) := by
    clear r
    induction es generalizing kvs with
    | nil => cases kvs with
      | nil => rfl
      | cons _ _ => cases hk
    | cons e es ih => cases kvs with
      | nil => cases hk
      | cons kv kvs =>
        rw [List.map_cons, List.map_cons, List.cons.injEq] at hk
        rw [List.any_cons, List.any_cons, ih hk.2, hk.1]
  unfold stored putA
  rw [hany]
  cases ha : es.any (fun e => decide (e.1 = k)) with
  | false =>
    simp only [Bool.false_eq_true, if_false, List.map_append, List.map_cons, List.map_nil]
    exact ⟨by rw [hk], r.append (.one hv)⟩
  | true =>
    simp only [if_true]
    clear ha hany
    induction es generalizing kvs with
    | nil => cases kvs with
      | nil => exact ⟨rfl, .nil⟩
      | cons _ _ => cases hk
    | cons e es ih => cases kvs with
      | nil => cases hk
      | cons kv kvs =>
        rw [List.map_cons, List.map_cons, List.cons.injEq] at hk
        cases r.inv with
        | cons hx hr =>
          refine (ih hk.2 hr).elim fun i1 i2 => ?_
          simp only [List.map_cons]
          by_cases q : e.1 = k
          · rw [if_pos q, if_pos (hk.1.trans q)]
            exact ⟨by rw [i1, hk.1], .cons hv i2⟩
          · rw [if_neg q, if_neg (fun z => q (hk.1.symm.trans z))]
            exact ⟨by rw [i1, hk.1], .cons hx i2⟩
end
section
variable {C : Cx} {sc : Scope} {vars : Vars} {H : List AO}
noncomputable def FOk (C : Cx) (n : Nat) : Prop := ∀ i ∈ C.F, i < n
theorem FOk.nin {n i : Nat} (f : FOk C n) (h : n ≤ i) : i ∉ C.F := fun q => absurd (f i q) (Nat.not_lt.mpr h)
noncomputable def SETI (C : Cx) (H : List AO) (o i v : AV) (Q : List AO → Prop) : Prop :=
  ∀ (A : Around) (ρ φ : List Addr) (s : Shared) (ov iv c : Value), AOk C.d A → Rep C.B ρ φ H s → RV C.B ρ φ s.heap o ov → RV C.B ρ φ s.heap i iv → RV C.B ρ φ s.heap v c →
    wpAny (model C.B.prog C.B.w) A (setItem ov iv c) (fun _ s' => PostH C ρ φ s Q s') noE s
theorem SETI_list {k : Nat} {xs : List AV} {i : Int} {v : AV} {Q : List AO → Prop} (hk : H[k]? = some (.list xs)) (hF : k ∉ C.F) (h0 : 0 ≤ i) (hi : i.toNat < xs.length) (hz : xs.length ≤ 16777216) (q : Q (H.set k (.list (xs.set i.toNat v)))) :
    SETI C H (.ref k) (.int i) v Q := fun A ρ φ s ov iv c hA R ro ri rv => by
  cases ri.inv
  cases ro.inv with
  | ref ha => cases (R.obj _ _ _ hk ha).inv with
    | list ho hx =>
      rename_i a vs
      obtain ⟨n, ho⟩ := ho
      have hl : vs.size = xs.length := hx.size
      refine ki_setAt ho h0 (by lia) (by lia) ?_
      have hnew : (s.heap.update a (Obj.mapSeq (·.setIfInBounds i.toNat c))).PlainList a (vs.setIfInBounds i.toNat c) :=
        ⟨_, Heap.get?_update_self _ ho rfl⟩
      obtain ⟨X, R'⟩ := R.set (F := C.F) ha hF (Heap.SameBut.update s.heap a (Obj.mapSeq (·.setIfInBounds i.toNat c))) (.list (xs.set i.toNat v)) (let ⟨_, e⟩ := hnew; ⟨_, e⟩)
        (fun W => .list hnew (by rw [Array.toList_setIfInBounds]; exact (hx.ext W).set (rv.ext W))) (g := s.gens) (d := s.drawn) (t := s.toks) (os := s.os)
      exact ⟨ρ, φ, _, X, R', q⟩
theorem SETI_dictI {k : Nat} {es : List (Int × AV)} {l : Int} {v : AV} {Q : List AO → Prop} (hk : H[k]? = some (.dictI es)) (hF : k ∉ C.F) (hz : es.length ≤ 16777216) (q : Q (H.set k (.dictI (putA es l v)))) :
    SETI C H (.ref k) (.int l) v Q := fun A ρ φ s ov iv c hA R ro ri rv => by
  cases ri.inv
  cases ro.inv with
  | ref ha => cases (R.obj _ _ _ hk ha).inv with
    | dictI ho hs hkk hx =>
      rename_i a kvs
      have hlen : kvs.length = es.length := by have := congrArg List.length hkk; simpa using this
      refine wpAny_setItem_pairs (intKind_is _ _ l _) ho (fun h' hd hsb => ?_) (sz_ok (by exact ar61 (by assumption) (by assumption) (by rfl)))
      obtain ⟨X, R'⟩ := R.set (F := C.F) ha hF hsb (.dictI (putA es l v)) (hd.elim fun o zz1 => zz1.elim fun _ zz2 => zz2.elim fun _ zz3 => zz3.elim fun e _ => ⟨o, e⟩)
        (fun W => .dictI hd hs (putI_ok (rv.ext W) hkk (hx.ext W)).1 (putI_ok (rv.ext W) hkk (hx.ext W)).2) (g := s.gens) (d := s.drawn) (t := s.toks + 1) (os := s.os)
      exact ⟨ρ, φ, _, X, R', q⟩
theorem AS_sub {o i : Expr} {pos : Pos} {v : AV} {Q : Vars → List AO → Prop} (h : EV C sc vars H o fun ov H1 => EV C sc vars H1 i fun iv H2 => SETI C H2 ov iv v fun H3 => Q vars H3) : AS C sc vars H (.Subscript o i pos) v Q := fun A env ρ φ s c hA hE R V O hv =>
  kas_sub (wpAny_mono (h A env ρ φ s hA hE R V) (fun ov s1 zz1 => zz1.elim fun ρ1 φ1 H1 v1 X1 R1 rv1 q1 => wpAny_mono (q1 A env ρ1 φ1 s1 hA hE R1 (V.ext X1)) (fun iv s2 zz1 => zz1.elim fun ρ2 φ2 H2 v2 X2 R2 rv2 q2 =>
    wpAny_mono (q2 A ρ2 φ2 s2 ov iv c hA R2 (rv1.ext X2.w) rv2 (hv.ext (X1.trans X2).w)) (fun _ s3 zz1 => zz1.elim fun ρ3 φ3 H3 X3 R3 q3 => ⟨ρ3, φ3, H3, vars, ((X1.trans X2).trans X3).p, R3, V.ext ((X1.trans X2).trans X3), q3⟩) fun _ _ x => x) fun _ _ x => x) fun _ _ x => x)
@[reducible] noncomputable def si3K (C : Cx) (v ov : AV) (vars : Vars) (Q : AF → Vars → List AO → Prop) : AV → List AO → Prop := fun iv H2 => SETI C H2 ov iv v fun H3 => Q .next vars H3
@[reducible] noncomputable def si2K (C : Cx) (sc : Scope) (vars : Vars) (i : Expr) (v : AV) (Q : AF → Vars → List AO → Prop) : AV → List AO → Prop := fun ov H1 => EV C sc vars H1 i (si3K C v ov vars Q)
@[reducible] noncomputable def siK (C : Cx) (sc : Scope) (vars : Vars) (o i : Expr) (Q : AF → Vars → List AO → Prop) : AV → List AO → Prop := fun v H0 => EV C sc vars H0 o (si2K C sc vars i v Q)
theorem EX_sub {o i : Expr} {pos' pos : Pos} {value : Expr} {Q : AF → Vars → List AO → Prop} (hsw : ∀ env, swapsWith value (some (.Subscript o i pos')) pos.line env = pure false)
    (h : EV C sc vars H value (siK C sc vars o i Q)) : EX C sc vars H (.Assign [.Subscript o i pos'] value pos) Q := fun A env ρ φ s hA hE R V K =>
  wpAny_Assign_Subscript (wpAny_mono (h A env ρ φ s hA hE R V) (fun v s0 zz1 => zz1.elim fun ρ0 φ0 H0 v0 X0 R0 rv0 q0 => wpAny_mono (q0 A env ρ0 φ0 s0 hA hE R0 (V.ext X0)) (fun ov s1 zz1 => zz1.elim fun ρ1 φ1 H1 v1 X1 R1 rv1 q1 =>
    wpAny_mono (q1 A env ρ1 φ1 s1 hA hE R1 ((V.ext X0).ext X1)) (fun iv s2 zz1 => zz1.elim fun ρ2 φ2 H2 v2 X2 R2 rv2 q2 =>
    wpAny_mono (q2 A ρ2 φ2 s2 ov iv v hA R2 (rv1.ext X2.w) rv2 (rv0.ext (X1.trans X2).w)) (fun _ s3 zz1 => zz1.elim fun ρ3 φ3 H3 X3 R3 q3 =>
      have XX : Ext C.F ρ φ s.heap ρ3 φ3 s3.heap := ((X0.trans X1).trans X2).trans X3
      ⟨ρ3, φ3, H3, vars, .next, XX.s, R3, V.ext XX, .next, q3⟩) fun _ _ x => x) fun _ _ x => x) fun _ _ x => x) fun _ _ x => x) (hsw env)
noncomputable def SUBv (C : Cx) (H : List AO) (o i : AV) (Q : AV → List AO → Prop) : Prop :=
  ∀ (A : Around) (ρ φ : List Addr) (s : Shared) (x y : Value), AOk C.d A → Rep C.B ρ φ H s → RV C.B ρ φ s.heap o x → RV C.B ρ φ s.heap i y →
    wpAny (model C.B.prog C.B.w) A (getItem x y) (Post C ρ φ s Q) noE s
theorem SUB.v {o i : AV} {Q : AV → List AO → Prop} (h : SUB C H o i Q) : SUBv C H o i Q := fun A ρ φ s x y hA R rx ry => (h A ρ φ s x y hA R rx ry).elim fun _ zz1 => zz1.elim fun _ zz2 => zz2.elim fun _ zz3 => zz3.elim fun _ w => w
theorem EX_augsub {o i : Expr} {pos' pos : Pos} {op : Operator} {value : Expr} {Q : AF → Vars → List AO → Prop}
    (ha : ∀ ov iv new, augStore i ov iv new = (do holding [new, ov, iv] (setItem ov iv new); release [new, ov, iv] []; pure .next))
    (h : EV C sc vars H o fun ov H1 => EV C sc vars H1 i fun iv H2 => SUB C H2 ov iv fun old H3 => EV C sc vars H3 value fun v H4 => OP2 C H4 old v (inplaceOp op) fun w H5 => SETI C H5 ov iv w fun H6 => Q .next vars H6) :
    EX C sc vars H (.AugAssign (.Subscript o i pos') op value pos) Q := fun A env ρ φ s hA hE R V K =>
  wpAny_AugAssign_Subscript_any (wpAny_mono (h A env ρ φ s hA hE R V) (fun ov s1 zz1 => zz1.elim fun ρ1 φ1 H1 v1 X1 R1 rv1 q1 => wpAny_mono (q1 A env ρ1 φ1 s1 hA hE R1 (V.ext X1)) (fun iv s2 zz1 => zz1.elim fun ρ2 φ2 H2 v2 X2 R2 rv2 q2 =>
    wpAny_mono (q2.v A ρ2 φ2 s2 ov iv hA R2 (rv1.ext X2.w) rv2) (fun old s3 zz1 => zz1.elim fun ρ3 φ3 H3 v3 X3 R3 rv3 q3 => wpAny_mono (q3 A env ρ3 φ3 s3 hA hE R3 (((V.ext X1).ext X2).ext X3)) (fun v s4 zz1 => zz1.elim fun ρ4 φ4 H4 v4 X4 R4 rv4 q4 =>
      wpAny_mono (q4 A ρ4 φ4 s4 old v hA R4 (rv3.ext X4.w) rv4) (fun w s5 zz1 => zz1.elim fun ρ5 φ5 H5 v5 X5 R5 rv5 q5 =>
        wpAny_mono (q5 A ρ5 φ5 s5 ov iv w hA R5 ((((rv1.ext X2.w).ext X3.w).ext X4.w).ext X5.w) (((rv2.ext X3.w).ext X4.w).ext X5.w) rv5) (fun _ s6 zz1 => zz1.elim fun ρ6 φ6 H6 X6 R6 q6 =>
          have XX : Ext C.F ρ φ s.heap ρ6 φ6 s6.heap := ((((X1.trans X2).trans X3).trans X4).trans X5).trans X6
          ⟨ρ6, φ6, H6, vars, .next, XX.s, R6, V.ext XX, .next, q6⟩) fun _ _ x => x) fun _ _ x => x) fun _ _ x => x) fun _ _ x => x) fun _ _ x => x) fun _ _ x => x) ha
noncomputable def UNP (C : Cx) (H : List AO) (v : AV) (n : Nat) (Q : List AV → List AO → Prop) : Prop :=
  ∀ (A : Around) (ρ φ : List Addr) (s : Shared) (c : Value), AOk C.d A → Rep C.B ρ φ H s → RV C.B ρ φ s.heap v c → wpAny (model C.B.prog C.B.w) A (unpackItems c n none) (PostL C ρ φ s Q) noE s
theorem extBut_keeps {h h' : Heap} (e : Heap.ExtBut h.objs.size h h') : ∀ a o, h.get? a = some o → h'.get? a = some o := fun a o q => e a o (fun z => by subst z; exact Nat.lt_irrefl _ (Heap.lt_size q)) q
theorem UNP_tup {xs : List AV} {n : Nat} {Q : List AV → List AO → Prop} (hn : n = xs.length) (q : Q xs H) : UNP C H (.tup xs) n Q := fun A ρ φ s c hA R r => by
  cases r.inv with
  | tup ho hn' hx =>
    rw [hn, ← hx.size]
    refine unpackItems_tuple hA.handled ho fun h' he => ?_
    have X : Ext C.F ρ φ s.heap ρ φ h' := ext_keeps R (extBut_keeps he)
    exact ⟨ρ, φ, H, xs, X, R.keeps (s' := { s with heap := h' }) (extBut_keeps he), hx.ext X.w, q⟩
theorem UNP_list {xs : List AV} {n : Nat} {Q : List AV → List AO → Prop} (hn : n = xs.length) (q : Q xs H) : UNP C H (.list xs) n Q := fun A ρ φ s c hA R r => by
  cases r.inv with
  | list ho hn' hx =>
    rw [hn, ← hx.size]
    refine kun_itemsOf hA.handled ho.isList fun h' he => ?_
    have X : Ext C.F ρ φ s.heap ρ φ h' := ext_keeps R (extBut_keeps he)
    exact ⟨ρ, φ, H, xs, X, R.keeps (s' := { s with heap := h' }) (extBut_keeps he), hx.ext X.w, q⟩
noncomputable def ASs (C : Cx) (sc : Scope) : Vars → List AO → List Expr → List AV → (Vars → List AO → Prop) → Prop
  | vars, H, [], [], Q => Q vars H
  | vars, H, t :: ts, v :: vs, Q => AS C sc vars H t v fun vars1 H1 => ASs C sc vars1 H1 ts vs Q
  | _, _, _, _, _ => False
theorem ass_ok {env : Env} : ∀ (ts : List Expr) {vs : List AV} {vars : Vars} {H : List AO} {Q : Vars → List AO → Prop} (h : ASs C sc vars H ts vs Q) {A : Around} {ρ φ : List Addr} {s : Shared} {cs : List Value} (hA : AOk C.d A) (hE : EnvOk sc env)
    (R : Rep C.B ρ φ H s) (V : RVars C.B ρ φ env vars s.heap) (O : ∀ t ∈ ts, TOwn φ env t) (hv : RVs C.B ρ φ s.heap vs cs), wpAny (model C.B.prog C.B.w) A (assignInOrder (ts.map fun t => assign t env) cs) (fun _ => PostP (fun x => ∃ t ∈ ts, Tgt x t) C env ρ φ s Q) noE s
  | [], [], vars, H, Q, h, A, ρ, φ, s, cs, hA, hE, R, V, O, hv => by
    cases hv; exact wpAny_assignInOrder_none ⟨ρ, φ, H, vars, ExtP.refl _ _ _ _ _ _, R, V, h⟩
  | t :: ts, v :: vs, vars, H, Q, h, A, ρ, φ, s, cs, hA, hE, R, V, O, hv => by
    cases hv with
    | cons hx hr =>
      refine wpAny_assignInOrder_more (wpAny_mono (h A env ρ φ s _ hA hE R V (O t List.mem_cons_self) hx) (fun _ s1 zz1 => zz1.elim fun ρ1 φ1 H1 v1 X1 R1 V1 q1 => ?_) fun _ _ x => x)
      have W : ExtW ρ φ s.heap ρ1 φ1 s1.heap := ⟨X1.pre, fun a o e n _ => by
        refine (X1.keep a o e n.1 (fun z => n.2 (z ▸ V.locφ)) (fun _ _ _ => n.2)).elim fun q1 zz1 => zz1.elim fun q2 q3 => ?_; clear zz1
        exact ⟨q1, q2, q3 n.2⟩⟩
      exact wpAny_mono (ass_ok ts q1 hA hE R1 V1 (fun t' ht x a g e => X1.sub a (O t' (List.mem_cons_of_mem _ ht) x a g e)) (hr.ext W)) (fun _ s2 zz1 => zz1.elim fun ρ2 φ2 H2 v2 X2 R2 V2 q2 => ⟨ρ2, φ2, H2, v2, (X1.mono fun y e => ⟨t, List.mem_cons_self, e⟩).trans (X2.mono fun y zz1 => zz1.elim fun t' zz2 => zz2.elim fun h e => ⟨t', List.mem_cons_of_mem _ h, e⟩), R2, V2, q2⟩) fun _ _ x => x
  | [], _ :: _, _, _, _, h, _, _, _, _, _, _, _, _, _, _, _ => h.elim
  | _ :: _, [], _, _, _, h, _, _, _, _, _, _, _, _, _, _, _ => h.elim
theorem assignEach_plain {t : Expr} {r : List Expr} {env : Env} (h : plainArgs (t :: r) = true) : assignEach (t :: r) env = (false, assign t env) :: assignEach r env ∧ plainArgs r = true := by
  cases t <;> first | exact ⟨rfl, h⟩ | cases h
theorem assignEach_all {env : Env} : ∀ (ts : List Expr), plainArgs ts = true → assignEach ts env = ts.map fun t => (false, assign t env)
  | [], _ => rfl
  | t :: r, h => by
    refine (assignEach_plain (env := env) h).elim fun e1 e2 => ?_
    rw [e1, assignEach_all r e2]; rfl
@[reducible] noncomputable def unK (C : Cx) (sc : Scope) (vars : Vars) (ts : List Expr) (Q : Vars → List AO → Prop) : List AV → List AO → Prop := fun vs H1 => ASs C sc vars H1 ts vs Q
theorem AS_tuple {ts : List Expr} {k : Nat} {pos : Pos} {v : AV} {Q : Vars → List AO → Prop} (hp : plainArgs ts = true) (h : UNP C H v ts.length (unK C sc vars ts Q)) : AS C sc vars H (.Tuple ts k pos) v Q := fun A env ρ φ s c hA hE R V O hv => by
  rw [assign_Tuple]
  refine wpAny_bind (wpAny_standAt ?_)
  have e := assignEach_all (env := env) ts hp
  have hf : (assignEach ts env).findIdx? (·.1) = none := by
    rw [e]
    clear e h hp O
    induction ts with
    | nil => rfl
    | cons t ts ih => rw [List.map_cons, List.findIdx?_cons]; simp only []; rw [ih]; rfl
  unfold unpack
  rw [hf, e, List.length_map, List.map_map]
  refine wpAny_bind (wpAny_holding (wpAny_mono (h A ρ φ s c hA R hv) (fun vs s1 zz1 => zz1.elim fun ρ1 φ1 H1 v1 X1 R1 rv q1 => ?_) fun _ _ x => x))
  exact wpAny_mono (ass_ok ts q1 hA hE R1 (V.ext X1) (fun t ht x a g e => X1.sub a (O x a (.tup ht g) e)) rv) (fun _ s2 zz1 => zz1.elim fun ρ2 φ2 H2 v2 X2 R2 V2 q2 => ⟨ρ2, φ2, H2, v2, X1.p.trans (X2.mono fun y zz1 => zz1.elim fun t zz2 => zz2.elim fun h e => .tup h e), R2, V2, q2⟩) fun _ _ x => x
theorem RVs.reverse {B : Base} {ρ φ : List Addr} {h : Heap} : ∀ {xs : List AV} {vs : List Value}, RVs B ρ φ h xs vs → RVs B ρ φ h xs.reverse vs.reverse
  | _, _, .nil => .nil
  | _, _, .cons hx hr => by rw [List.reverse_cons, List.reverse_cons]; exact (RVs.reverse hr).append (.one hx)
noncomputable def updAll : List String → List AV → Vars → Vars
  | n :: ns, v :: vs, vars => updAll ns vs (upd n v vars)
  | _, _, vars => vars
theorem bind_names {env : Env} : ∀ (ns : List String) {us : List AV} {cs : List Value} {vars : Vars} {H : List AO} {ρ φ : List Addr} {s : Shared} (hown : (ns.all fun n => isOwn sc (Str.ofString n)) = true) (hl : us.length = ns.length) {A : Around} (hA : AOk C.d A) (hE : EnvOk sc env)
    (R : Rep C.B ρ φ H s) (V : RVars C.B ρ φ env vars s.heap) (O : CellOwn φ env) (r : RVs C.B ρ φ s.heap us cs),
    wpAny (model C.B.prog C.B.w) A (assignInOrder ((ns.map Str.ofString).map fun n => bindName env n) cs) (fun _ => PostP (fun _ => True) C env ρ φ s fun v2 H2 => v2 = updAll ns us vars ∧ H2 = H) noE s
  | [], [], cs, vars, H, ρ, φ, s, _, _, A, hA, hE, R, V, O, r => by cases r.inv; exact wpAny_assignInOrder_none ⟨ρ, φ, H, vars, ExtS.refl _ _ _ _ _, R, V, rfl, rfl⟩
  | n :: ns, u :: us, cs, vars, H, ρ, φ, s, ho, hl, A, hA, hE, R, V, O, r => by
    cases r.inv with
    | cons hx hr =>
      rw [List.all_cons, Bool.and_eq_true] at ho
      refine wpAny_assignInOrder_more (wpAny_bindName (wpAny_mono (store_ok (Q := fun vs H' => vs = upd n u vars ∧ H' = H) ho.1 ⟨rfl, rfl⟩ hA hE R V (fun a e => O _ a e) hx) (fun _ s3 ⟨ρ3, φ3, H3, v3, X3, R3, V3, e1, e2⟩ => ?_) fun _ _ x => x))
      subst e1 e2
      have W : ExtW ρ φ s.heap ρ3 φ3 s3.heap := ⟨X3.pre, fun a o e n _ => by
        refine (X3.keep a o e n.1 (fun z => n.2 (z ▸ V.locφ)) (fun _ _ _ => n.2)).elim fun q1 zz1 => zz1.elim fun q2 q3 => ?_; clear zz1
        exact ⟨q1, q2, q3 n.2⟩⟩
      exact wpAny_mono (bind_names ns ho.2 (by simpa using hl) hA hE R3 V3 (O.ext X3.all) (hr.ext W)) (fun _ s4 p => p.ext X3.all) fun _ _ x => x
  | [], _ :: _, _, _, _, _, _, _, _, hl, _, _, _, _, _, _, _ => by cases hl
  | _ :: _, [], _, _, _, _, _, _, _, hl, _, _, _, _, _, _, _ => by cases hl
theorem EX_swap {ts : List Expr} {k : Nat} {tpos pos : Pos} {value : Expr} (names : List String) {Q : AF → Vars → List AO → Prop} (hsw : ∀ env, swapsWithSole [.Tuple ts k tpos] value pos.line env = pure false)
    (hw : ∀ env, EnvOk sc env → swappedStores [.Tuple ts k tpos] value env = pure (some (names.map Str.ofString))) (hown : (names.all fun n => isOwn sc (Str.ofString n)) = true)
    (h : EV C sc vars H value fun v H1 => UNP C H1 v names.length fun vs H2 => vs.length = names.length ∧ Q .next (updAll names.reverse vs.reverse vars) H2) :
    EX C sc vars H (.Assign [.Tuple ts k tpos] value pos) Q := fun A env ρ φ s hA hE R V O =>
  Assign_Tuple_swapped (wpAny_mono (h A env ρ φ s hA hE R V) (fun v s1 ⟨ρ1, φ1, H1, v1, X1, R1, rv1, q1⟩ => by
    rw [List.length_map]
    refine wpAny_mono (q1 A ρ1 φ1 s1 v hA R1 rv1) (fun vs s2 ⟨ρ2, φ2, H2, v2, X2, R2, rv2, hl, q2⟩ => ?_) fun _ _ x => x
    rw [← List.map_reverse]
    exact wpAny_mono (bind_names names.reverse (by rw [List.all_reverse]; exact hown) (by simpa using hl) hA hE R2 ((V.ext X1).ext X2) (O.ext ((X1.trans X2).s (env := env))) rv2.reverse)
      (fun _ s3 ⟨ρ3, φ3, H3, v3, X3, R3, V3, e1, e2⟩ => by subst e1 e2; exact ⟨ρ3, φ3, _, _, .next, (X1.trans X2).s.trans X3, R3, V3, .next, q2⟩) fun _ _ x => x) fun _ _ x => x) (hsw env) (hw env hE)
theorem EX_three {a b c : String} {pa pb pc pos : Pos} {value : Expr} {Q : AF → Vars → List AO → Prop} (ha : isOwn sc (Str.ofString a) = true) (hb : isOwn sc (Str.ofString b) = true) (hc : isOwn sc (Str.ofString c) = true)
    (h : EV C sc vars H value fun v H1 => Q .next (upd c v (upd b v (upd a v vars))) H1) : EX C sc vars H (.Assign [.Name (Str.ofString a) pa, .Name (Str.ofString b) pb, .Name (Str.ofString c) pc] value pos) Q := fun A env ρ φ s hA hE R V O =>
  wpAny_Assign_three (wpAny_mono (h A env ρ φ s hA hE R V) (fun v s1 ⟨ρ1, φ1, H1, v1, X1, R1, rv, q1⟩ => by
    have W : ∀ {ρ φ ρ' φ' h h' vars}, RVars C.B ρ φ env vars h → CellOwn φ env → ExtP (fun _ => True) env C.F ρ φ h ρ' φ' h' → ExtW ρ φ h ρ' φ' h' := fun V _ X => ⟨X.pre, fun a o e n _ => by
      obtain ⟨q1, q2, q3⟩ := X.keep a o e n.1 (fun z => n.2 (z ▸ V.locφ)) (fun _ _ _ => n.2)
      exact ⟨q1, q2, q3 n.2⟩⟩
    have V1 := V.ext X1
    have O1 := O.ext (X1.s (env := env))
    refine wpAny_assign_Name (wpAny_mono (store_ok (Q := fun vs H => vs = upd a v1 vars ∧ H = H1) ha ⟨rfl, rfl⟩ hA hE R1 V1 (fun a e => O1 _ a e) rv) (fun _ s2 ⟨ρ2, φ2, H2, v2, X2, R2, V2, e1, e2⟩ => ?_) fun _ _ x => x)
    subst e1 e2
    have rv2 := rv.ext (W V1 O1 X2.all)
    have O2 := O1.ext X2.all
    refine wpAny_assign_Name (wpAny_mono (store_ok (Q := fun vs H => vs = upd b v1 (upd a v1 vars) ∧ H = H2) hb ⟨rfl, rfl⟩ hA hE R2 V2 (fun a e => O2 _ a e) rv2) (fun _ s3 ⟨ρ3, φ3, H3, v3, X3, R3, V3, e1, e2⟩ => ?_) fun _ _ x => x)
    subst e1 e2
    have rv3 := rv2.ext (W V2 O2 X3.all)
    have O3 := O2.ext X3.all
    refine wpAny_assign_Name (wpAny_mono (store_ok (Q := fun vs H => vs = upd c v1 (upd b v1 (upd a v1 vars)) ∧ H = H3) hc ⟨rfl, rfl⟩ hA hE R3 V3 (fun a e => O3 _ a e) rv3) (fun _ s4 ⟨ρ4, φ4, H4, v4, X4, R4, V4, e1, e2⟩ => ?_) fun _ _ x => x)
    subst e1 e2
    exact ⟨ρ4, φ4, H4, _, .next, ((X1.s.trans X2.all).trans X3.all).trans X4.all, R4, V4, .next, q1⟩) fun _ _ x => x)
theorem OP_iadd {a b : Int} {Q : AV → List AO → Prop} (q : Q (.int (a + b)) H) : OP2 C H (.int a) (.int b) (inplaceOp .Add) Q := fun A ρ φ s x y hA R rx ry => by
  cases rx.inv; cases ry.inv; exact iadd_int (post_toks R (.int _ _) q)
theorem OP_icat {a b : List Nat} {Q : AV → List AO → Prop} (h : a.length + b.length ≤ 16777216) (q : Q (.str (a ++ b)) H) : OP2 C H (.str a) (.str b) (inplaceOp .Add) Q := fun A ρ φ s x y hA R rx ry => by
  cases rx.inv; cases ry.inv
  exact iadd_str (fun t' tk => by rw [sOf_append]; exact ⟨ρ, φ, H, _, Ext.refl _ _ _ _, R.anyToks, .str _ _, q⟩) (by show a.toArray.size + b.toArray.size ≤ _; simp only [List.size_toArray]; exact sz_ok h)
end
end
section
set_option genInjectivity true in
inductive Dt where
  | int (i : Int) | bool (b : Bool) | str (l : List Nat) | tup (xs : List Dt) | list (xs : List Dt)
mutual
inductive DV (h : Heap) : Value → Dt → Prop
  | int (i t) : DV h (.int i t) (.int i)
  | bool (b) : DV h (.bool b) (.bool b)
  | str (l t) : DV h (.str (sOf l) t) (.str l)
  | tup {a vs ds} (ho : h.IsTuple a vs) (hd : DVs h vs.toList ds) : DV h (.ref a) (.tup ds)
  | list {a vs ds} (ho : h.PlainList a vs) (hd : DVs h vs.toList ds) : DV h (.ref a) (.list ds)
inductive DVs (h : Heap) : List Value → List Dt → Prop
  | nil : DVs h [] []
  | cons {v d vs ds} (hv : DV h v d) (hr : DVs h vs ds) : DVs h (v :: vs) (d :: ds)
end
theorem plain_uniq {h : Heap} {a : Addr} {vs ws : Array Value} (x : h.PlainList a vs) (y : h.PlainList a ws) : vs = ws := by
  refine x.elim fun n e => ?_; (try clear x)
  refine y.elim fun m f => ?_; (try clear y)
  rw [e] at f
  injection f with f
  injection f with _ _ f
  injection f
theorem tup_uniq {h : Heap} {a : Addr} {vs ws : Array Value} (x : h.IsTuple a vs) (y : h.IsTuple a ws) : vs = ws := by
  refine x.elim fun o zz1 => zz1.elim fun e zz2 => zz2.elim fun _ zz3 => zz3.elim fun n d => ?_; clear zz3 zz2 zz1; (try clear x)
  refine y.elim fun o' zz1 => zz1.elim fun e' zz2 => zz2.elim fun _ zz3 => zz3.elim fun n' d' => ?_; clear zz3 zz2 zz1; (try clear y)
  rw [e] at e'
  injection e' with e'
  subst e'
  rw [d] at d'
  injection d'
theorem tup_plain {h : Heap} {a : Addr} {vs ws : Array Value} (x : h.IsTuple a vs) (y : h.PlainList a ws) : False := by
  refine x.elim fun o zz1 => zz1.elim fun e zz2 => zz2.elim fun c _ => ?_; clear zz2 zz1; (try clear x)
  refine y.elim fun n e' => ?_; (try clear y)
  rw [e] at e'
  injection e' with e'
  subst e'
  simp at c
section
variable {h : Heap}
inductive DVT (h : Heap) (ds : List Dt) : Value → Prop
  | mk {a vs} (ho : h.IsTuple a vs) (hd : DVs h vs.toList ds) : DVT h ds (.ref a)
inductive DVL (h : Heap) (ds : List Dt) : Value → Prop
  | mk {a vs} (ho : h.PlainList a vs) (hd : DVs h vs.toList ds) : DVL h ds (.ref a)
noncomputable def DVI (h : Heap) : Dt → Value → Prop
  | .int i => InvInt i
  | .bool b => InvBool b
  | .str l => InvStr l
  | .tup ds => DVT h ds
  | .list ds => DVL h ds
theorem DV.inv {v : Value} {d : Dt} (x : DV h v d) : DVI h d v := DV.casesOn (motive_1 := fun v d _ => DVI h d v) x (fun _ t => .int t) (fun _ => .bool) (fun _ t => .str t) .mk .mk
theorem DV.isInt {v : Value} {i : Int} (x : DV h v (.int i)) : ∃ t, v = .int i t := InvInt.rec (motive := fun v _ => ∃ t, v = .int i t) (fun t => ⟨t, rfl⟩) (show InvInt i v from x.inv)
noncomputable def DVV (h : Heap) : Value → Dt → Prop
  | .int i _ => fun d => d = .int i
  | .bool b => fun d => d = .bool b
  | .str s _ => fun d => ∃ l, s = sOf l ∧ d = .str l
  | .ref a => fun d => (∃ vs ds, d = .tup ds ∧ h.IsTuple a vs ∧ DVs h vs.toList ds) ∨ ∃ vs ds, d = .list ds ∧ h.PlainList a vs ∧ DVs h vs.toList ds
  | _ => fun _ => True
theorem DV.byV {v : Value} {d : Dt} (x : DV h v d) : DVV h v d :=
  DV.casesOn (motive_1 := fun v d _ => DVV h v d) x (fun _ _ => rfl) (fun _ => rfl) (fun l _ => ⟨l, rfl, rfl⟩) (fun ho hd => .inl ⟨_, _, rfl, ho, hd⟩) (fun ho hd => .inr ⟨_, _, rfl, ho, hd⟩)
theorem DVs.hd {v : Value} {vs : List Value} {ds : List Dt} (x : DVs h (v :: vs) ds) : ∃ d es, ds = d :: es ∧ DV h v d ∧ DVs h vs es := by
  cases x with
  | cons hv hr => exact ⟨_, _, rfl, hv, hr⟩
theorem DVs.nilR {ds : List Dt} (x : DVs h [] ds) : ds = [] := by
  cases x; rfl
theorem DV.det {v : Value} {d e : Dt} (x : DV h v d) : DV h v e → d = e :=
  DV.rec (motive_1 := fun v d _ => ∀ e, DV h v e → d = e) (motive_2 := fun vs ds _ => ∀ es, DVs h vs es → ds = es) (fun _ _ _ y => (DV.byV y).symm) (fun _ _ y => (DV.byV y).symm)
    (fun _ _ _ y => let ⟨_, q, z⟩ := DV.byV y; z ▸ congrArg Dt.str (sOf_inj q))
    (fun ho _ ih _ y => (DV.byV y).elim (fun ⟨_, _, q, ho', hd'⟩ => q ▸ congrArg Dt.tup (ih _ (tup_uniq ho ho' ▸ hd'))) fun ⟨_, _, _, ho', _⟩ => (tup_plain ho ho').elim)
    (fun ho _ ih _ y => (DV.byV y).elim (fun zz1 => zz1.elim fun _ zz2 => zz2.elim fun _ zz3 => zz3.elim fun _ zz4 => zz4.elim fun ho' _ => (tup_plain ho' ho).elim) fun zz1 => zz1.elim fun _ zz2 => zz2.elim fun _ zz3 => zz3.elim fun q zz4 => zz4.elim fun ho' hd' => q ▸ congrArg Dt.list (ih _ (plain_uniq ho ho' ▸ hd')))
    (fun _ y => y.nilR.symm) (fun _ _ ih ihs _ y => y.hd.elim fun _ zz1 => zz1.elim fun _ zz2 => zz2.elim fun q zz3 => zz3.elim fun y1 y2 => q ▸ congr (congrArg List.cons (ih _ y1)) (ihs _ y2)) x e
theorem DVs.length {vs : List Value} {ds : List Dt} (x : DVs h vs ds) : vs.length = ds.length :=
  DVs.rec (motive_1 := fun _ _ _ => True) (motive_2 := fun vs ds _ => vs.length = ds.length) (fun _ _ => trivial) (fun _ => trivial) (fun _ _ => trivial) (fun _ _ _ => trivial) (fun _ _ _ => trivial) rfl (fun _ _ _ e => congrArg Nat.succ e) x
theorem DVs.getG {vs : List Value} {ds : List Dt} (x : DVs h vs ds) : ∀ (i : Nat) (v : Value), vs[i]? = some v → ∃ d, ds[i]? = some d ∧ DV h v d :=
  DVs.rec (motive_1 := fun _ _ _ => True) (motive_2 := fun vs ds _ => ∀ (i : Nat) (v : Value), vs[i]? = some v → ∃ d, ds[i]? = some d ∧ DV h v d) (fun _ _ => trivial) (fun _ => trivial) (fun _ _ => trivial) (fun _ _ _ => trivial) (fun _ _ _ => trivial)
    (fun _ _ e => nomatch e) (fun hv _ _ ih i v => Nat.casesOn i (fun e => ⟨_, rfl, Option.some.inj e ▸ hv⟩) fun k e => ih k v e) x
theorem DVs.get {vs : List Value} {ds : List Dt} {i : Nat} {v : Value} (x : DVs h vs ds) (e : vs[i]? = some v) : ∃ d, ds[i]? = some d ∧ DV h v d := x.getG i v e
end
inductive Cmp : Nat → Dt → Dt → Prop
  | int {n} (i j) : Cmp n (.int i) (.int j)
  | str {n} (i j) : Cmp n (.str i) (.str j)
  | bool {n} (i j) : Cmp n (.bool i) (.bool j)
  | tup {n xs ys} (h : ∀ (i : Nat) x y, xs[i]? = some x → ys[i]? = some y → Cmp n x y) : Cmp (n + 1) (.tup xs) (.tup ys)
  | list {n xs ys} (h : ∀ (i : Nat) x y, xs[i]? = some x → ys[i]? = some y → Cmp n x y) : Cmp (n + 1) (.list xs) (.list ys)
noncomputable def Cm (A : Around) (s : Shared) (c f : Value) (b : Bool) : Prop := SeqAt.EqAt A s c f b ∧ SeqAt.RcAt A s c f b ∧ SeqAt.RcNeAt A s c f (!b)
theorem cm_int {A : Around} {s : Shared} {i j : Int} {t u} {b : Bool} (e : (i == j) = b) : Cm A s (.int i t) (.int j u) b := by
  subst e
  exact ⟨(MeetsSeq.EqGives.int _ _ _ _).at A s, fun prog w E Q hq => PySem.P.eq_int hq, fun prog w E Q hq => PySem.P.ne_int hq⟩
theorem cm_str {A : Around} {s : Shared} {i j : Str} {t u} {b : Bool} (e : (i == j) = b) : Cm A s (.str i t) (.str j u) b := by
  subst e
  exact ⟨(eqGives_str _ _ _ _).at A s, fun prog w E Q hq => eq_str hq, fun prog w E Q hq => ne_str hq⟩
theorem cm_bool {A : Around} {s : Shared} {i j : Bool} {b : Bool} (e : (i == j) = b) : Cm A s (.bool i) (.bool j) b := by
  subst e
  have rc : SeqAt.RcAt A s (.bool i) (.bool j) (i == j) := fun prog w E Q hq => eq_bool hq
  refine ⟨fun prog w E Q hq => ?_, rc, fun prog w E Q hq => ne_bool hq⟩
  by_cases z : i = j
  · subst z; rw [beq_self_eq_true] at hq; exact SeqAt.EqAt.same _ prog w E Q hq
  · unfold eqBool
    refine wpAny_holding (wpAny_ite_split (fun hab => absurd (Value.bool.inj (eq_of_beq hab)) z) fun _ => ?_)
    exact wpAny_bind (rc prog w E _ (wpAny_truthy_bool hq))
theorem cm_ref {A : Around} {s : Shared} {a b : Addr} {d e : Dt} {q : Bool} (hq : q = true ↔ d = e) (x : DV s.heap (.ref a) d) (y : DV s.heap (.ref b) e) (r : SeqAt.RcAt A s (.ref a) (.ref b) q) (n : SeqAt.RcNeAt A s (.ref a) (.ref b) (!q)) : Cm A s (.ref a) (.ref b) q := by
  refine ⟨?_, r, n⟩
  by_cases z : a = b
  · subst z
    rw [hq.mpr (x.det y)]
    exact SeqAt.EqAt.same _
  · exact SeqAt.EqAt.of_refs z r
open Classical in
theorem cm_seqs {A : Around} {s : Shared} {xs ys : List Dt} {vs ws : Array Value} (hx : DVs s.heap vs.toList xs) (hy : DVs s.heap ws.toList ys)
    (ih : ∀ (i : Nat) x y, xs[i]? = some x → ys[i]? = some y → ∀ c f, DV s.heap c x → DV s.heap f y → SeqAt.EqAt A s c f (decide (x = y))) :
    ∃ g : Nat → Bool, (∀ j (h1 : j < vs.size) (h2 : j < ws.size), SeqAt.EqAt A s vs[j] ws[j] (g j)) ∧ (vs.size = ws.size → ((List.range vs.size).all g = true ↔ xs = ys)) ∧ (vs.size ≠ ws.size → xs ≠ ys) := by
  have lx : vs.size = xs.length := hx.length
  have ly : ws.size = ys.length := hy.length
  refine ⟨fun j => decide (xs[j]? = ys[j]?), fun j h1 h2 => ?_, fun hs => ?_, fun hs z => hs (by rw [lx, ly, z])⟩
  · refine (hx.get (i := j) (v := vs[j]) (by rw [Array.getElem?_toList]; exact Array.getElem?_eq_getElem h1)).elim fun d1 zz1 => zz1.elim fun g1 r1 => ?_; clear zz1
    refine (hy.get (i := j) (v := ws[j]) (by rw [Array.getElem?_toList]; exact Array.getElem?_eq_getElem h2)).elim fun d2 zz1 => zz1.elim fun g2 r2 => ?_; clear zz1
    have := ih j d1 d2 g1 g2 _ _ r1 r2
    show SeqAt.EqAt A s vs[j] ws[j] (decide (xs[j]? = ys[j]?))
    rw [g1, g2]
    rwa [show decide (some d1 = some d2) = decide (d1 = d2) from decide_eq_decide.mpr ⟨Option.some.inj, congrArg some⟩]
  · rw [List.all_eq_true]
    refine ⟨fun z => List.ext_getElem? fun i => ?_, fun z j _ => decide_eq_true (z ▸ rfl)⟩
    by_cases hi : i < vs.size
    · exact of_decide_eq_true (z i (List.mem_range.mpr hi))
    · rw [List.getElem?_eq_none (lx ▸ Nat.le_of_not_lt hi), List.getElem?_eq_none (ly ▸ hs ▸ Nat.le_of_not_lt hi)]
theorem dt_tup {xs ys : List Dt} : Dt.tup xs = .tup ys ↔ xs = ys := ⟨Dt.tup.inj, congrArg _⟩
theorem dt_list {xs ys : List Dt} : Dt.list xs = .list ys ↔ xs = ys := ⟨Dt.list.inj, congrArg _⟩
open Classical in
theorem cmp_ok (n : Nat) {s : Shared} {A : Around} {d e : Dt} {c f : Value} (hc : Cmp n d e) : DV s.heap c d → DV s.heap f e → A.units + n + 1 < cLine → Cm A s c f (decide (d = e)) := by
  refine Cmp.rec (motive := fun n d e _ => ∀ A c f, DV s.heap c d → DV s.heap f e → A.units + n + 1 < cLine → Cm A s c f (decide (d = e))) (fun i j A c f x y _ => ?_) (fun i j A c f x y _ => ?_) (fun i j A c f x y _ => ?_) (fun _ ih A c f x y hu => ?_) (fun _ ih A c f x y hu => ?_) hc A c f
  · cases x.inv; cases y.inv; exact cm_int (Bool.eq_iff_iff.mpr (by rw [beq_iff_eq, decide_eq_true_iff]; exact ⟨congrArg _, Dt.int.inj⟩))
  · cases x.inv; cases y.inv; exact cm_str (Bool.eq_iff_iff.mpr (by rw [beq_iff_eq, decide_eq_true_iff]; exact ⟨fun q => congrArg _ (sOf_inj q), fun q => congrArg _ (Dt.str.inj q)⟩))
  · cases x.inv; cases y.inv; exact cm_bool (Bool.eq_iff_iff.mpr (by rw [beq_iff_eq, decide_eq_true_iff]; exact ⟨congrArg _, Dt.bool.inj⟩))
  · cases x.inv with
    | mk ho hd => cases y.inv with
      | mk ho' hd' =>
        refine (cm_seqs (A := A.in1) hd hd' fun i a b q1 q2 c f r1 r2 => (ih i a b q1 q2 A.in1 c f r1 r2 (by rw [Nat.add_right_comm A.units] at hu; exact hu)).1).elim fun g zz1 => zz1.elim fun g1 zz2 => zz2.elim fun g2 g3 => ?_; clear zz2 zz1
        rename_i xs ys k a vs b ws
        have key : ((List.range (min vs.size ws.size)).all g && vs.size == ws.size) = decide (Dt.tup xs = Dt.tup ys) := by
          rw [Bool.eq_iff_iff, Bool.and_eq_true, beq_iff_eq, decide_eq_true_iff, dt_tup]
          by_cases hs : vs.size = ws.size
          · rw [← hs, Nat.min_self, g2 hs]; exact and_iff_left rfl
          · exact ⟨fun z => absurd z.2 hs, fun z => absurd z (g3 hs)⟩
        have hu' : A.units < cLine := Nat.lt_of_le_of_lt (Nat.le_add_right A.units _) (Nat.lt_of_succ_lt hu)
        exact cm_ref decide_eq_true_iff x y (key ▸ SeqAt.RcAt.tuples ho ho' hu' g1) (key ▸ SeqAt.RcNeAt.tuples ho ho' hu' g1)
  · cases x.inv with
    | mk ho hd => cases y.inv with
      | mk ho' hd' =>
        refine (cm_seqs (A := A.in1) hd hd' fun i a b q1 q2 c f r1 r2 => (ih i a b q1 q2 A.in1 c f r1 r2 (by rw [Nat.add_right_comm A.units] at hu; exact hu)).1).elim fun g zz1 => zz1.elim fun g1 zz2 => zz2.elim fun g2 g3 => ?_; clear zz2 zz1
        rename_i xs ys k a vs b ws
        have hu' : A.units < cLine := Nat.lt_of_le_of_lt (Nat.le_add_right A.units _) (Nat.lt_of_succ_lt hu)
        by_cases hs : vs.size = ws.size
        · have key : (List.range vs.size).all g = decide (Dt.list xs = Dt.list ys) := by
            rw [Bool.eq_iff_iff, decide_eq_true_iff, dt_list]; exact g2 hs
          exact cm_ref decide_eq_true_iff x y (key ▸ SeqAt.RcAt.lists ho.isList ho'.isList hs hu' g1) (key ▸ SeqAt.RcNeAt.lists ho.isList ho'.isList hs hu' g1)
        · have key : false = decide (Dt.list xs = Dt.list ys) := (decide_eq_false fun z => g3 hs (dt_list.mp z)).symm
          have hne : (vs.size != ws.size) = true := bne_iff_ne.mpr hs
          exact cm_ref decide_eq_true_iff x y (key ▸ SeqAt.RcAt.lists_lengths ho.isList ho'.isList hne hu') (key ▸ SeqAt.RcNeAt.lists_lengths ho.isList ho'.isList hne hu')
mutual
inductive Dat (H : List AO) : AV → Dt → Prop
  | int (i) : Dat H (.int i) (.int i)
  | bool (b) : Dat H (.bool b) (.bool b)
  | str (l) : Dat H (.str l) (.str l)
  | tup {xs ds} (h : Dats H xs ds) : Dat H (.tup xs) (.tup ds)
  | list {xs ds} (h : Dats H xs ds) : Dat H (.list xs) (.list ds)
  | ref {i xs ds} (e : H[i]? = some (.list xs)) (h : Dats H xs ds) : Dat H (.ref i) (.list ds)
inductive Dats (H : List AO) : List AV → List Dt → Prop
  | nil : Dats H [] []
  | cons {x d xs ds} (h : Dat H x d) (r : Dats H xs ds) : Dats H (x :: xs) (d :: ds)
end
section
variable {B : Base} {ρ φ : List Addr} {H : List AO} {s : Shared}
theorem datBoth (R : Rep B ρ φ H s) {Z : Prop} (k : (∀ {v : AV} {d : Dt}, Dat H v d → ∀ c, RV B ρ φ s.heap v c → DV s.heap c d) → (∀ {xs : List AV} {ds : List Dt}, Dats H xs ds → ∀ cs, RVs B ρ φ s.heap xs cs → DVs s.heap cs ds) → Z) : Z := by
  have a1 : ∀ (i : Int) c, RV B ρ φ s.heap (.int i) c → DV s.heap c (.int i) := fun i c r => by cases r.inv; exact .int _ _
  have a2 : ∀ (i : Bool) c, RV B ρ φ s.heap (.bool i) c → DV s.heap c (.bool i) := fun i c r => by cases r.inv; exact .bool _
  have a3 : ∀ (i : List Nat) c, RV B ρ φ s.heap (.str i) c → DV s.heap c (.str i) := fun i c r => by cases r.inv; exact .str _ _
  have a4 : ∀ {xs ds}, Dats H xs ds → (∀ cs, RVs B ρ φ s.heap xs cs → DVs s.heap cs ds) → ∀ c, RV B ρ φ s.heap (.tup xs) c → DV s.heap c (.tup ds) := fun _ ih c r => by cases r.inv with | tup ho _ hx => exact .tup ho (ih _ hx)
  have a5 : ∀ {xs ds}, Dats H xs ds → (∀ cs, RVs B ρ φ s.heap xs cs → DVs s.heap cs ds) → ∀ c, RV B ρ φ s.heap (.list xs) c → DV s.heap c (.list ds) := fun _ ih c r => by cases r.inv with | list ho _ hx => exact .list ho (ih _ hx)
  have a6 : ∀ {i xs ds}, H[i]? = some (.list xs) → Dats H xs ds → (∀ cs, RVs B ρ φ s.heap xs cs → DVs s.heap cs ds) → ∀ c, RV B ρ φ s.heap (.ref i) c → DV s.heap c (.list ds) := fun e _ ih c r => by
    cases r.inv with | ref ha => cases (R.obj _ _ _ e ha).inv with | list ho hx => exact .list ho (ih _ hx)
  have a7 : ∀ cs, RVs B ρ φ s.heap [] cs → DVs s.heap cs [] := fun cs r => by cases r.inv; exact .nil
  have a8 : ∀ {x d xs ds}, Dat H x d → Dats H xs ds → (∀ c, RV B ρ φ s.heap x c → DV s.heap c d) → (∀ cs, RVs B ρ φ s.heap xs cs → DVs s.heap cs ds) → ∀ cs, RVs B ρ φ s.heap (x :: xs) cs → DVs s.heap cs (d :: ds) := fun _ _ i1 i2 cs r => by
    cases r.inv with | cons hx hr => exact .cons (i1 _ hx) (i2 _ hr)
  exact k (fun h => Dat.rec (motive_1 := fun v d _ => ∀ c, RV B ρ φ s.heap v c → DV s.heap c d) (motive_2 := fun xs ds _ => ∀ cs, RVs B ρ φ s.heap xs cs → DVs s.heap cs ds) a1 a2 a3 a4 a5 a6 a7 a8 h)
    (fun h => Dats.rec (motive_1 := fun v d _ => ∀ c, RV B ρ φ s.heap v c → DV s.heap c d) (motive_2 := fun xs ds _ => ∀ cs, RVs B ρ φ s.heap xs cs → DVs s.heap cs ds) a1 a2 a3 a4 a5 a6 a7 a8 h)
theorem Dat.dv (R : Rep B ρ φ H s) {v : AV} {d : Dt} {c : Value} (h : Dat H v d) (r : RV B ρ φ s.heap v c) : DV s.heap c d := datBoth R fun k _ => k h c r
theorem Dats.dv (R : Rep B ρ φ H s) {xs : List AV} {ds : List Dt} {cs : List Value} (h : Dats H xs ds) (r : RVs B ρ φ s.heap xs cs) : DVs s.heap cs ds := datBoth R fun _ k => k h cs r
end
theorem Dats.map {α : Type} {H : List AO} {f : α → AV} {g : α → Dt} : ∀ {l : List α}, (∀ x ∈ l, Dat H (f x) (g x)) → Dats H (l.map f) (l.map g)
  | [], _ => .nil
  | x :: l, h => .cons (h x List.mem_cons_self) (Dats.map fun y hy => h y (List.mem_cons_of_mem _ hy))
section
variable {C : Cx} {H : List AO}
theorem OP_eqd {n : Nat} {a b : AV} {d e : Dt} {Q : AV → List AO → Prop} (ha : Dat H a d) (hb : Dat H b e) (hc : Cmp n d e) (hn : n ≤ 100) (q : ∀ r : Bool, (r = true ↔ d = e) → Q (.bool r) H) : OP2 C H a b (compareOp .Eq) Q := fun A ρ φ s x y hA R rx ry => by
  classical
  have := (cmp_ok n (A := A) hc (ha.dv R rx) (hb.dv R ry) (by have := hA.units; show _ < 9900; lia)).2.1
  exact this _ _ _ _ (post_pure R (.bool _) (q _ (by simp)))
theorem OP_ned {n : Nat} {a b : AV} {d e : Dt} {Q : AV → List AO → Prop} (ha : Dat H a d) (hb : Dat H b e) (hc : Cmp n d e) (hn : n ≤ 100) (q : ∀ r : Bool, (r = true ↔ d ≠ e) → Q (.bool r) H) : OP2 C H a b (compareOp .NotEq) Q := fun A ρ φ s x y hA R rx ry => by
  classical
  have := (cmp_ok n (A := A) hc (ha.dv R rx) (hb.dv R ry) (by have := hA.units; show _ < 9900; lia)).2.2
  exact this _ _ _ _ (post_pure R (.bool _) (q _ (by simp)))
open Classical in
theorem in_any {n : Nat} {xs : List Dt} {x : Dt} {vs : Array Value} {c : Value} {s : Shared} {A : Around} (h : DVs s.heap vs.toList xs) (hx : DV s.heap c x) (hc : ∀ y ∈ xs, Cmp n y x) (hu : A.units + n + 2 < cLine) :
    ∃ e : Value → Bool, (∀ y, y ∈ vs → SeqAt.EqAt A.in1 s y c (e y)) ∧ (vs.any e = true ↔ x ∈ xs) := by
  refine ⟨fun y => decide (DV s.heap y x), fun y hy => ?_, ?_⟩
  · refine (Array.getElem_of_mem hy).elim fun i zz1 => zz1.elim fun hi e1 => ?_; clear zz1
    refine (h.get (i := i) (v := y) (by simp [hi, e1])).elim fun d zz1 => zz1.elim fun g1 g2 => ?_; clear zz1
    have := (cmp_ok n (A := A.in1) (hc d (List.mem_of_getElem? g1)) g2 hx (by show A.units + 1 + n + 1 < _; lia)).1
    have e2 : decide (DV s.heap y x) = decide (d = x) := by
      by_cases z : d = x
      · subst z; simp [g2]
      · have : ¬ DV s.heap y x := fun w => z (g2.det w)
        simp [z, this]
    show SeqAt.EqAt _ _ _ _ (decide (DV s.heap y x))
    rw [e2]; exact this
  · rw [Array.any_eq_true']
    constructor
    · intro zz1; refine zz1.elim fun y zz2 => zz2.elim fun hy e1 => ?_; clear zz2 zz1
      refine (Array.getElem_of_mem hy).elim fun i zz1 => zz1.elim fun hi e2 => ?_; clear zz1
      refine (h.get (i := i) (v := y) (by simp [hi, e2])).elim fun d zz1 => zz1.elim fun g1 g2 => ?_; clear zz1
      rw [g2.det (by simpa using e1)] at g1
      exact List.mem_of_getElem? g1
    · intro hm
      refine (List.getElem_of_mem hm).elim fun i zz1 => zz1.elim fun hi e1 => ?_; clear zz1
      have hl : i < vs.toList.length := by rw [h.length]; exact hi
      refine (h.get (i := i) (v := vs.toList[i]) (List.getElem?_eq_getElem hl)).elim fun d zz1 => zz1.elim fun g1 g2 => ?_; clear zz1
      rw [List.getElem?_eq_getElem hi, e1] at g1
      cases g1
      exact ⟨vs.toList[i], Array.mem_toList_iff.mp (List.getElem_mem hl), by simpa using g2⟩
theorem list_of_dat {B : Base} {ρ φ : List Addr} {s : Shared} (R : Rep B ρ φ H s) {v : AV} {ds : List Dt} {c : Value} (h : Dat H v (.list ds)) (r : RV B ρ φ s.heap v c) : ∃ a vs, c = .ref a ∧ s.heap.PlainList a vs ∧ DVs s.heap vs.toList ds := by
  have := h.dv R r
  cases this with
  | list ho hd => exact ⟨_, _, rfl, ho, hd⟩
theorem OP_ind {n : Nat} {a b : AV} {d : Dt} {es : List Dt} {Q : AV → List AO → Prop} (ha : Dat H a d) (hb : Dat H b (.list es)) (hc : ∀ y ∈ es, Cmp n y d) (hn : n ≤ 100) (q : ∀ r : Bool, (r = true ↔ d ∈ es) → Q (.bool r) H) : OP2 C H a b (compareOp .In) Q := fun A ρ φ s x y hA R rx ry => by
  refine (list_of_dat R hb ry).elim fun l zz1 => zz1.elim fun vs zz2 => zz2.elim fun zz3 zz4 => zz4.elim fun hl hd => ?_; clear zz4 zz2 zz1; (first | subst zz3 | cases zz3)
  refine (in_any (A := A) hd (ha.dv R rx) hc (by have := hA.units; show _ < 9900; lia)).elim fun e zz1 => zz1.elim fun e1 e2 => ?_; clear zz1
  exact SeqAt.in_listAt e hl.isList e1 (post_pure R (.bool _) (q _ e2))
end
end
section
section
variable {B : Base} {ρ φ : List Addr} {H : List AO} {s : Shared} {F : List Nat}
theorem Rep.newAt (R : Rep B ρ φ H s) {a : Addr} {h' : Heap} (ha : s.heap.objs.size ≤ a) (k : ∀ b o, s.heap.get? b = some o → h'.get? b = some o) (ao : AO) (hl : ∃ o, h'.get? a = some o) {g : Array GenState} {d : Drawn} {t : Nat} {os : OsState}
    (x : ExtW ρ φ s.heap (ρ ++ [a]) φ h' → RO B (ρ ++ [a]) φ h' ao a) (hg : g = s.gens := by rfl) (ho : os = s.os := by rfl) :
    Ext F ρ φ s.heap (ρ ++ [a]) φ h' ∧ Rep B (ρ ++ [a]) φ (H ++ [ao]) ⟨h', g, d, t, os⟩ := by
  have X : ∀ {F}, Ext F ρ φ s.heap (ρ ++ [a]) φ h' := fun {F} =>
    ⟨List.prefix_append _ _, fun b o' e n => ⟨k b o' e, fun q => by
      rcases List.mem_append.mp q with q | q
      · exact n q
      · rw [List.mem_singleton] at q; subst q; exact absurd (Heap.lt_size e) (Nat.not_lt.mpr ha), id⟩, fun _ q => q, fun i b _ e => by refine (R.alive b (.inl (List.mem_of_getElem? e))).elim fun o q => ?_; rw [q, k b o q]⟩
  refine ⟨X, R.step (s' := ⟨h', g, d, t, os⟩) (X (F := [])).w (R.baseExt (X (F := []))) (by simp [R.len]) ?_ (fun i o' b e1 e2 => ?_) (fun b hb => ?_) (fun b hb => ?_) (fun b hb => ?_) hg ho⟩
  · rw [List.nodup_append]
    refine ⟨R.nodup, by simp, fun b hb c hc => ?_⟩
    rw [List.mem_singleton] at hc; subst hc
    refine (R.alive b (.inl hb)).elim fun o' e => ?_
    exact Nat.ne_of_lt (Nat.lt_of_lt_of_le (Heap.lt_size e) ha)
  · rcases Nat.lt_trichotomy i ρ.length with q | q | q
    · rw [List.getElem?_append_left (by rw [← R.len]; exact q)] at e1
      rw [List.getElem?_append_left q] at e2
      refine (R.alive b (.inl (List.mem_of_getElem? e2))).elim fun o'' e => ?_
      exact .inl ⟨e1, e2, by rw [e]; exact k b o'' e⟩
    · subst q
      rw [List.getElem?_append_right (Nat.le_refl _), Nat.sub_self] at e2
      rw [R.len, List.getElem?_append_right (Nat.le_refl _), Nat.sub_self] at e1
      cases e1; cases e2
      exact .inr (x (X (F := [])).w)
    · rw [List.getElem?_eq_none (by simp; assumption)] at e2; cases e2
  · rcases hb with hb | hb
    · rcases List.mem_append.mp hb with q | q
      · exact .inl (.inl q)
      · rw [List.mem_singleton] at q; subst q; exact .inr ha
    · exact .inl (.inr hb)
  · intro q
    rcases List.mem_append.mp q with q | q
    · exact R.disj b hb q
    · rw [List.mem_singleton] at q; subst q; exact (R.fresh ha).2 hb
  · rcases hb with hb | hb
    · rcases List.mem_append.mp hb with q | q
      · refine (R.alive b (.inl q)).elim fun o' e => ?_; exact ⟨o', k b o' e⟩
      · rw [List.mem_singleton] at q; subst q; exact hl
    · refine (R.alive b (.inr hb)).elim fun o' e => ?_; exact ⟨o', k b o' e⟩
end
section
variable {C : Cx} {H : List AO} {ρ φ : List Addr} {s : Shared}
theorem post_at (R : Rep C.B ρ φ H s) {a : Addr} {h' : Heap} {Q : AV → List AO → Prop} {v : AV} (ha : s.heap.objs.size ≤ a) (k : ∀ b o, s.heap.get? b = some o → h'.get? b = some o) {g : Array GenState} {d : Drawn} {t : Nat} {os : OsState}
    (hv : ExtW ρ φ s.heap ρ φ h' → a ∉ ρ ∧ a ∉ φ → RV C.B ρ φ h' v (.ref a)) (q : Q v H) (hg : g = s.gens := by rfl) (ho : os = s.os := by rfl) : Post C ρ φ s Q (.ref a) ⟨h', g, d, t, os⟩ :=
  ⟨ρ, φ, H, v, ext_keeps R k, R.keeps (s' := ⟨h', g, d, t, os⟩) k hg ho, hv (ext_keeps (F := []) R k).w (R.fresh ha), q⟩
theorem post_newAt (R : Rep C.B ρ φ H s) {a : Addr} {h' : Heap} {Q : AV → List AO → Prop} {ao : AO} (ha : s.heap.objs.size ≤ a) (k : ∀ b o, s.heap.get? b = some o → h'.get? b = some o) (hl : ∃ o, h'.get? a = some o) {g : Array GenState} {d : Drawn} {t : Nat} {os : OsState}
    (hv : ExtW ρ φ s.heap (ρ ++ [a]) φ h' → RO C.B (ρ ++ [a]) φ h' ao a) (q : Q (.ref H.length) (H ++ [ao])) (hg : g = s.gens := by rfl) (ho : os = s.os := by rfl) : Post C ρ φ s Q (.ref a) ⟨h', g, d, t, os⟩ :=
  (R.newAt (g := g) (d := d) (t := t) (os := os) ha k ao hl hv hg ho).elim fun X R' =>
  ⟨_, _, _, .ref H.length, X, R', .ref (by rw [← R.len, List.getElem?_append_right (Nat.le_refl _), Nat.sub_self]; rfl), q⟩
theorem post_keeps (R : Rep C.B ρ φ H s) {h' : Heap} {Q : AV → List AO → Prop} {v : AV} {c : Value} (k : ∀ b o, s.heap.get? b = some o → h'.get? b = some o) {g : Array GenState} {d : Drawn} {t : Nat} {os : OsState}
    (hv : RV C.B ρ φ s.heap v c) (q : Q v H) (hg : g = s.gens := by rfl) (ho : os = s.os := by rfl) : Post C ρ φ s Q c ⟨h', g, d, t, os⟩ :=
  ⟨ρ, φ, H, v, ext_keeps R k, R.keeps (s' := ⟨h', g, d, t, os⟩) k hg ho, hv.ext (ext_keeps (F := []) R k).w, q⟩
theorem post_set (R : Rep C.B ρ φ H s) {i : Nat} {a : Addr} {h' : Heap} {Q : AV → List AO → Prop} {v : AV} {c : Value} {o : AO} (ha : ρ[i]? = some a) (hi : i ∉ C.F) (x : Heap.SameBut a s.heap h') (hl : ∃ ob, h'.get? a = some ob)
    (ho : ExtW ρ φ s.heap ρ φ h' → RO C.B ρ φ h' o a) {g : Array GenState} {d : Drawn} {t : Nat} {os : OsState} (hv : ExtW ρ φ s.heap ρ φ h' → RV C.B ρ φ h' v c) (q : Q v (H.set i o)) (hg : g = s.gens := by rfl) (hos : os = s.os := by rfl) :
    Post C ρ φ s Q c ⟨h', g, d, t, os⟩ :=
  (R.set (F := C.F) (g := g) (d := d) (t := t) (os := os) ha hi x o hl ho hg hos).elim fun X R' =>
  ⟨ρ, φ, _, v, X, R', hv X.w, q⟩
theorem sys_ne (O : C.B.Ok) (R : Rep C.B ρ φ H s) {a : Addr} (ha : s.heap.objs.size ≤ a) : (a == sysModules) = false := by
  refine O.sysm.elim fun b zz1 => zz1.elim fun o zz2 => zz2.elim fun hb e => ?_; clear zz2 zz1
  have := Heap.lt_size (R.base _ _ e)
  have : a ≠ sysModules := Nat.ne_of_gt (Nat.lt_of_le_of_lt hb (Nat.lt_of_lt_of_le this ha))
  simpa using this
end
section
variable {C : Cx} {sc : Scope} {vars : Vars} {H : List AO}
theorem EV_dict0f {pos : Pos} {Q : AV → List AO → Prop} (O : C.B.Ok) (q : Q (.dictI []) H) : EV C sc vars H (.Dict [] [] pos) Q := fun A env ρ φ s hA hE R V =>
  wpAny_Dict_empty (post_push (C := C) R (v := .dictI []) (fun X n => .dictI (Heap.DictOf.new _) (sys_ne O R (Nat.le_refl _)) n rfl .nil) q)
noncomputable def mergeA {K : Type} [DecidableEq K] (acc : List (K × AV)) (es : List (K × AV)) : List (K × AV) := es.foldl (fun acc e => putA acc e.1 e.2) acc
inductive IsT (H : List AO) : AV → String → Prop
  | str {l} : IsT H (.str l) "str"
  | list {xs} : IsT H (.list xs) "list"
  | rlist {i xs} (h : H[i]? = some (.list xs)) : IsT H (.ref i) "list"
  | dictS {es} : IsT H (.dictS es) "dict"
  | dictI {es} : IsT H (.dictI es) "dict"
  | rdictS {i es} (h : H[i]? = some (.dictS es)) : IsT H (.ref i) "dict"
  | rdictI {i es} (h : H[i]? = some (.dictI es)) : IsT H (.ref i) "dict"
theorem dict_at {prog : Program} {w : World} {K : Type} [DecidableEq K] {knd : PySem.KeyKind prog w K} {h : Heap} {a : Addr} {kvs : List (K × Value)} (x : h.DictOf knd a kvs) : ∃ o, h.get? a = some o ∧ o.dict = none := by
  refine x.elim fun o zz1 => zz1.elim fun es zz2 => zz2.elim fun ep zz3 => zz3.elim fun e zz4 => zz4.elim fun zz5 _ => zz5.elim fun _ zz6 => zz6.elim fun d _ => ?_; clear zz6 zz5 zz4 zz3 zz2 zz1; (try clear x); exact ⟨o, e, d⟩
theorem IsT.ok {v : AV} {T : String} (t : IsT H v T) {B : Base} {ρ φ : List Addr} {s : Shared} {c : Value} (R : Rep B ρ φ H s) (r : RV B ρ φ s.heap v c) :
    s.TypeIs c T ∧ ∀ a, c = .ref a → ∃ o, s.heap.get? a = some o ∧ o.dict = none := by
  cases t with
  | str => cases r.inv; exact ⟨typeIs_str _ _ _, fun a e => by cases e⟩
  | list => cases r.inv with | list ho _ _ => exact ⟨ho.isList.typeIs, fun a e => by cases e; refine ho.elim fun n e => ?_; (try clear ho); exact ⟨_, e, rfl⟩⟩
  | rlist h => cases r.inv with | ref ha => cases (R.obj _ _ _ h ha).inv with | list ho _ => exact ⟨ho.isList.typeIs, fun a e => by cases e; refine ho.elim fun n e => ?_; (try clear ho); exact ⟨_, e, rfl⟩⟩
  | dictS => cases r.inv with | dictS ho _ _ _ _ => exact ⟨dictTypeIs ho, fun a e => by cases e; exact dict_at ho⟩
  | dictI => cases r.inv with | dictI ho _ _ _ _ => exact ⟨dictTypeIs ho, fun a e => by cases e; exact dict_at ho⟩
  | rdictS h => cases r.inv with | ref ha => cases (R.obj _ _ _ h ha).inv with | dictS ho _ _ _ => exact ⟨dictTypeIs ho, fun a e => by cases e; exact dict_at ho⟩
  | rdictI h => cases r.inv with | ref ha => cases (R.obj _ _ _ h ha).inv with | dictI ho _ _ _ => exact ⟨dictTypeIs ho, fun a e => by cases e; exact dict_at ho⟩
theorem GETM_b {v : AV} {T : String} {name : Str} {id : String} (t : IsT H v T) (pa : PlainAttrs T) (slot : Slot T name id) (hty : typeOf (.builtin id) = pure (.type "method_descriptor")) : GETM C H v name (.builtin id) := fun A ρ φ s ov pl Q hA R r q =>
  have ⟨t1, t2⟩ := t.ok R r
  getMethod_builtin t1 pa slot hty t2 q
theorem CALL_append {i : Nat} {xs : List AV} {v : AV} {Q : AV → List AO → Prop} (hi : H[i]? = some (.list xs)) (hF : i ∉ C.F) (hz : xs.length ≤ 16777216) (q : Q .none (H.set i (.list (xs ++ [v])))) : CALL C H (.builtin "list.append") [.ref i, v] Q := fun A ρ φ s cs hA R r => by
  cases r.inv2 with
  | mk rx rv => cases rx.inv with
        | ref ha => cases (R.obj _ _ _ hi ha).inv with
          | list ho hx =>
            refine wpAny_list_append_plain ho (fun h' hp hsb => ?_) (sz_ok (by rw [hx.size]; exact hz))
            exact post_set (C := C) R ha hF hsb (hp.elim fun _ e => ⟨_, e⟩) (fun W => .list hp (by rw [Array.toList_push]; exact (hx.ext W).append (.one (rv.ext W)))) (fun W => .none) q
theorem CALL_pop0 {i : Nat} {x : AV} {xs : List AV} {Q : AV → List AO → Prop} (hi : H[i]? = some (.list (x :: xs))) (hF : i ∉ C.F) (hz : xs.length ≤ 16000000) (q : Q x (H.set i (.list xs))) : CALL C H (.builtin "list.pop") [.ref i, .int 0] Q := fun A ρ φ s cs hA R r => by
  cases r.inv2 with
  | mk rx rv => cases rv.inv; cases rx.inv with
        | ref ha => cases (R.obj _ _ _ hi ha).inv with
          | list ho hx =>
            rename_i t a vs
            obtain ⟨n, ho⟩ := ho
            have hl : vs.size = xs.length + 1 := by rw [hx.size]; rfl
            have hv : vs.toList = vs[0] :: vs.toList.tail := by
              obtain ⟨l⟩ := vs
              cases l with
              | nil => simp at hl
              | cons a l => simp
            have hy : vs[0]? = some vs[0] := Array.getElem?_eq_getElem (by exact ar13 (by assumption) (by rfl))
            refine call_meets PySem.F.slot_list_pop ⟨_, ho, rfl⟩ PySem.F.entry_list_pop (PySem.F.args_list_pop_2 _ _) (MeetsSeq.list_pop_at a vs n 0 t 0 vs[0] (by decide) (seqIndex_of (by exact Int.le_refl _) (by show 0 < _; exact ar13 (by assumption) (by rfl))) hy (sz_ok (by exact as21 (by assumption) (by assumption) (by rfl)))) ⟨ho, ?_⟩
            have he : (vs.eraseIdxIfInBounds 0).toList = vs.toList.tail := by
              rw [Array.eraseIdxIfInBounds, dif_pos (by exact ar13 (by assumption) (by rfl))]
              obtain ⟨l⟩ := vs
              cases l with
              | nil => simp at hl
              | cons a l => simp
            have hnew : ∃ m, (s.heap.update a (Obj.mapSeq fun xs => xs.eraseIdxIfInBounds 0)).get? a = some { cls := .type "list", data := .seq (vs.eraseIdxIfInBounds 0) m } :=
              ⟨_, Heap.get?_update_self _ ho rfl⟩
            obtain ⟨m, hnew⟩ := hnew
            rw [hv] at hx
            cases hx.inv with
            | cons hx0 hxr =>
              exact post_set (C := C) R ha hF (Heap.SameBut.update ..) ⟨_, hnew⟩ (fun W => .list ⟨m, hnew⟩ (by rw [he]; exact hxr.ext W)) (fun W => hx0.ext W) q
theorem RVs.strs {B : Base} {ρ φ : List Addr} {h : Heap} : ∀ {ls : List (List Nat)} {vs : List Value}, RVs B ρ φ h (ls.map .str) vs → StrsAre vs (ls.map fun l => sOf l)
  | [], _, r => by cases r.inv; exact .nil
  | l :: ls, _, r => by
    cases r.inv with
    | cons hx hr => cases hx.inv; exact .cons _ _ (RVs.strs hr)
theorem RVs.ints {B : Base} {ρ φ : List Addr} {h : Heap} : ∀ {ls : List Int} {vs : List Value}, RVs B ρ φ h (ls.map .int) vs → IntsAre vs ls
  | [], _, r => by cases r.inv; exact .nil
  | l :: ls, _, r => by
    cases r.inv with
    | cons hx hr => cases hx.inv; exact .cons _ _ (RVs.ints hr)
theorem RVs.ofInts {B : Base} {ρ φ : List Addr} {h : Heap} : ∀ {ls : List Int} {vs : List Value}, IntsAre vs ls → RVs B ρ φ h (ls.map .int) vs
  | [], _, r => by cases r; exact .nil
  | l :: ls, _, r => by
    cases r with
    | cons y t hr => exact .cons (.int _ _) (RVs.ofInts hr)
noncomputable def strAt : Value → Option Str
  | .str x _ => some x
  | _ => none
theorem CALL_index {ls : List (List Nat)} {x : List Nat} {j : Nat} {Q : AV → List AO → Prop} (hj : ls[j]? = some x) (hno : ∀ m, m < j → ls[m]? ≠ some x) (hz : ls.length ≤ 16777216) (q : Q (.int j) H) : CALL C H (.builtin "list.index") [.list (ls.map .str), .str x] Q := fun A ρ φ s cs hA R r => by
  cases r.inv2 with
  | mk rx rv => cases rv.inv; cases rx.inv with
        | list ho hn hx =>
          rename_i t a vs
          obtain ⟨n, ho⟩ := ho
          have hl : vs.size = ls.length := by rw [hx.size, List.length_map]
          have hat : ∀ (m : Nat) (hm : m < vs.size), ∃ l tk, vs[m] = .str (sOf l) tk ∧ ls[m]? = some l := fun m hm => by
            obtain ⟨y, e1, e2⟩ := hx.get' (i := m) (v := vs[m]) (by simp [hm])
            rw [List.getElem?_map] at e1
            obtain ⟨l, e3, rfl⟩ := Option.map_eq_some_iff.mp e1
            generalize hv : vs[m] = v at e2
            obtain ⟨_, rfl⟩ := e2.isStr; exact ⟨l, _, rfl, e3⟩
          have hjl : j < vs.size := by rw [hl]; exact lt_of_get hj
          refine call_meets PySem.F.slot_list_index ⟨_, ho, rfl⟩ PySem.F.entry_list_index (PySem.F.args_list_index_2 _ _) (MeetsSeq.list_index a vs n _ (fun y => strAt y == some (sOf x)) (fun y hy => ?_) j hjl (by have := lt_of_get hj; omega) ?_ (fun m hm hmj => ?_)) ⟨ho, ?_⟩
          · obtain ⟨m, hm, e⟩ := Array.getElem_of_mem hy
            obtain ⟨l, tk, e1, _⟩ := hat m hm
            rw [← e, e1]
            show MeetsSeq.EqGives _ _ (some (sOf l) == some (sOf x))
            have := eqGives_str (sOf l) (sOf x) tk t
            simpa using this
          · refine (hat j hjl).elim fun l zz1 => zz1.elim fun tk zz2 => zz2.elim fun e1 e2 => ?_; clear zz2 zz1
            rw [e1]
            rw [hj] at e2; cases e2
            show (some (sOf x) == some (sOf x)) = true
            simp
          · refine (hat m hm).elim fun l zz1 => zz1.elim fun tk zz2 => zz2.elim fun e1 e2 => ?_; clear zz2 zz1
            rw [e1]
            show (some (sOf l) == some (sOf x)) = false
            have : sOf l ≠ sOf x := fun z => hno m hmj (by rw [e2, sOf_inj z])
            simpa using this
          · exact post_toks (C := C) R (.int _ _) q
end
end
section
section
variable {C : Cx} {H : List AO} {ρ φ : List Addr} {s : Shared}
theorem post_at' (R : Rep C.B ρ φ H s) {a : Addr} {h' : Heap} {Q : AV → List AO → Prop} {v : AV} (ha : s.heap.get? a = none) (k : ∀ b o, s.heap.get? b = some o → h'.get? b = some o) {g : Array GenState} {d : Drawn} {t : Nat} {os : OsState}
    (hv : ExtW ρ φ s.heap ρ φ h' → a ∉ ρ ∧ a ∉ φ → RV C.B ρ φ h' v (.ref a)) (q : Q v H) (hg : g = s.gens := by rfl) (ho : os = s.os := by rfl) : Post C ρ φ s Q (.ref a) ⟨h', g, d, t, os⟩ :=
  ⟨ρ, φ, H, v, ext_keeps R k, R.keeps (s' := ⟨h', g, d, t, os⟩) k hg ho, hv (ext_keeps (F := []) R k).w
    ⟨(fun q => by refine (R.alive a (.inl q)).elim fun o e => ?_; rw [ha] at e; cases e), (fun q => by refine (R.alive a (.inr q)).elim fun o e => ?_; rw [ha] at e; cases e)⟩, q⟩
end
section
variable {C : Cx} {sc : Scope} {vars : Vars} {H : List AO}
theorem mapOfD {prog : Program} {w : World} {K : Type} [DecidableEq K] {knd : PySem.KeyKind prog w K} {h : Heap} {a : Addr} {kvs : List (K × Value)} (x : h.DictOf knd a kvs) : h.MapOf knd a (valueAt kvs) := x.mapOf
inductive IsDS (H : List AO) : AV → List (List Nat × AV) → Prop
  | imm {es} : IsDS H (.dictS es) es
  | ref {i es} (h : H[i]? = some (.dictS es)) : IsDS H (.ref i) es
inductive IsDI (H : List AO) : AV → List (Int × AV) → Prop
  | imm {es} : IsDI H (.dictI es) es
  | ref {i es} (h : H[i]? = some (.dictI es)) : IsDI H (.ref i) es
theorem IsDS.get {v : AV} {es : List (List Nat × AV)} (d : IsDS H v es) {B : Base} {ρ φ : List Addr} {s : Shared} {c : Value} (R : Rep B ρ φ H s) (r : RV B ρ φ s.heap v c) :
    ∃ a kvs, c = .ref a ∧ s.heap.DictOf (PySem.strKind B.prog B.w) a kvs ∧ (a == sysModules) = false ∧ kvs.map (·.1) = (es.map fun e => sOf e.1) ∧ RVs B ρ φ s.heap (es.map (·.2)) (kvs.map (·.2)) := by
  cases d with
  | imm => cases r.inv with | dictS ho hs hn hk hx => exact ⟨_, _, rfl, ho, hs, hk, hx⟩
  | ref h => cases r.inv with | ref ha => cases (R.obj _ _ _ h ha).inv with | dictS ho hs hk hx => exact ⟨_, _, rfl, ho, hs, hk, hx⟩
theorem IsDI.get {v : AV} {es : List (Int × AV)} (d : IsDI H v es) {B : Base} {ρ φ : List Addr} {s : Shared} {c : Value} (R : Rep B ρ φ H s) (r : RV B ρ φ s.heap v c) :
    ∃ a kvs, c = .ref a ∧ s.heap.DictOf (intKind B.prog B.w) a kvs ∧ (a == sysModules) = false ∧ kvs.map (·.1) = es.map (·.1) ∧ RVs B ρ φ s.heap (es.map (·.2)) (kvs.map (·.2)) := by
  cases d with
  | imm => cases r.inv with | dictI ho hs hn hk hx => exact ⟨_, _, rfl, ho, hs, hk, hx⟩
  | ref h => cases r.inv with | ref ha => cases (R.obj _ _ _ h ha).inv with | dictI ho hs hk hx => exact ⟨_, _, rfl, ho, hs, hk, hx⟩
theorem CALL_getI {o : AV} {es : List (Int × AV)} {k : Int} {d : AV} {Q : AV → List AO → Prop} (ho : IsDI H o es) (q : Q ((es.lookup k).getD d) H) : CALL C H (.builtin "dict.get") [o, .int k, d] Q := fun A ρ φ s cs hA R r => by
  cases r.inv3 with
  | mk rx rk rd =>
          cases rk.inv
          refine (ho.get R rx).elim fun a zz1 => zz1.elim fun kvs zz2 => zz2.elim fun zz3 zz4 => zz4.elim fun hd zz5 => zz5.elim fun hs zz6 => zz6.elim fun hk hx => ?_; clear zz6 zz5 zz4 zz2 zz1; (first | subst zz3 | cases zz3)
          refine call_meetsIn PySem.F.slot_dict_get (dictTypeIs hd) PySem.F.entry_dict_get (PySem.F.args_dict_get_3 _ _ _) (meets_dict_get_default _ a (intKind_is _ _ k _) hs _) ⟨_, mapOfD hd, ?_⟩
          refine (keyI_lookup (k := k) hk hx).elim fun l1 l2 => ?_
          cases e : es.lookup k with
          | none => rw [l2 e]; rw [e] at q; exact post_toks (C := C) R rd q
          | some v => refine (l1 v e).elim fun c zz1 => zz1.elim fun e1 e2 => ?_; clear zz1; rw [e1]; rw [e] at q; exact post_toks (C := C) R e2 q
noncomputable def TokTab (B : Base) (a : Addr) (tbl : List (List Nat × Int)) : Prop := KTD.TextTab B.h0 a (tbl.map fun p => (sOf p.1, KTD.Dat.flat (.int p.2)))
theorem tok_at {tbl : List (List Nat × Int)} {k : List Nat} : KTD.datumAt (sOf k) (tbl.map fun p => (sOf p.1, KTD.Dat.flat (.int p.2))) = (tbl.lookup k).map fun i => KTD.Dat.flat (.int i) := by
  induction tbl with
  | nil => rfl
  | cons p tbl ih =>
    show (if decide (sOf k = sOf p.1) = true then _ else KTD.datumAt (sOf k) (tbl.map _)) = _
    rw [List.lookup_cons]
    by_cases h : k = p.1
    · subst h; simp
    · have h1 : sOf k ≠ sOf p.1 := fun z => h (sOf_inj z)
      have h2 : (k == p.1) = false := by simpa using h
      rw [if_neg (by simpa using h1), h2]
      exact ih
theorem GETM_tab {a : Addr} {tbl : List (List Nat × Int)} (T : TokTab C.B a tbl) : GETM C H (.val (.ref a)) "get" (.builtin "dict.get") := fun A ρ φ s ov pl Q hA R r q => by
  cases r.eqv
  exact KTD.getMethod_text (h₀ := C.B.h0) ⟨T, R.base⟩ q
theorem CALL_tab {a : Addr} {tbl : List (List Nat × Int)} {k : List Nat} {d : Int} {Q : AV → List AO → Prop} (T : TokTab C.B a tbl) (q : Q (.int ((tbl.lookup k).getD d)) H) : CALL C H (.builtin "dict.get") [.val (.ref a), .str k, .int d] Q := fun A ρ φ s cs hA R r => by
  cases r.inv3 with
  | mk rx rk rd =>
          cases rk.inv; cases rx.eqv; cases rd.inv
          have TT : KTD.Here C.B.h0 s.heap a (tbl.map fun p => (sOf p.1, KTD.Dat.flat (.int p.2))) := ⟨T, R.base⟩
          refine call_meetsIn PySem.F.slot_dict_get TT.typeIs PySem.F.entry_dict_get (PySem.F.args_dict_get_3 _ _ _) (KTD.meets_get2 (h₀ := C.B.h0) (D := tbl.map fun p => (sOf p.1, KTD.Dat.flat (.int p.2)))) ⟨TT, fun dd v ha hv => ?_, fun hn => ?_⟩
          · rw [tok_at] at ha
            refine (Option.map_eq_some_iff.mp ha).elim fun i zz1 => zz1.elim fun e1 e2 => ?_; clear zz1
            subst e2
            refine (PyProof.V.Flat.int_inv (show PyProof.V.Flat v (.int i) from hv)).elim fun t e => ?_
            subst e
            rw [e1] at q
            exact post_toks (C := C) R (.int _ _) q
          · rw [tok_at] at hn
            have : tbl.lookup k = none := by simpa using hn
            rw [this] at q
            exact post_toks (C := C) R (.int _ _) q
theorem OP_eqs {a b : List Nat} {Q : AV → List AO → Prop} (q : Q (.bool (a == b)) H) : OP2 C H (.str a) (.str b) (compareOp .Eq) Q := fun A ρ φ s x y hA R rx ry => by
  cases rx.inv; cases ry.inv
  exact PySem.P.eq_str (post_pure R (.bool _) q)
theorem OP_nes {a b : List Nat} {Q : AV → List AO → Prop} (q : Q (.bool (a != b)) H) : OP2 C H (.str a) (.str b) (compareOp .NotEq) Q := fun A ρ φ s x y hA R rx ry => by
  cases rx.inv; cases ry.inv
  exact PySem.P.ne_str (post_pure R (.bool _) q)
theorem OP_insign {c : Nat} {l : List Nat} {Q : AV → List AO → Prop} (q : Q (.bool (decide (c ∈ l))) H) : OP2 C H (.str [c]) (.str l) (compareOp .In) Q := fun A ρ φ s x y hA R rx ry => by
  cases rx.inv; cases ry.inv
  refine PySem.P.in_str (post_pure R ?_ q)
  have := empty_one (sOf l) c
  rw [show (sOf [c] : Str) = ⟨#[c]⟩ from rfl, this]
  simpa using RV.bool _
theorem txt_mul (l : List Nat) (n : Int) : Txt.mul (sOf l) n = sOf (List.replicate n.toNat l).flatten := by
  unfold Txt.mul
  split
  · rename_i h
    rw [show n.toNat = 0 by lia]; rfl
  · split
    · rename_i h1 h2
      simp only [Bool.or_eq_true, beq_iff_eq] at h2
      rcases h2 with h2 | h2
      · subst h2; simp
      · have : l = [] := by
          have : (sOf l).length = l.length := by show l.toArray.size = _; simp
          cases l with
          | nil => rfl
          | cons _ _ => rw [this] at h2; cases h2
        subst this
        have : (List.replicate n.toNat ([] : List Nat)).flatten = [] := by simp
        rw [this]
    · have hf : ∀ (k : Nat) (acc : Array Nat), List.foldl (fun x1 x2 => x1 ++ x2) acc (List.replicate k l.toArray) = acc ++ (List.replicate k l).flatten.toArray := by
        intro k
        induction k with
        | zero => intro acc; simp
        | succ k ih => intro acc; rw [List.replicate_succ, List.foldl_cons, ih, List.replicate_succ, List.flatten_cons]; simp
      show (⟨_⟩ : Str) = ⟨_⟩
      rw [hf]; simp
theorem OP_muls {l : List Nat} {n : Int} {Q : AV → List AO → Prop} (hl : l.length ≤ 1000) (hn : n ≤ 10000) (h0 : 0 ≤ n) (q : Q (.str (List.replicate n.toNat l).flatten) H) : OP2 C H (.str l) (.int n) (binaryOp .Mult) Q := fun A ρ φ s x y hA R rx ry => by
  cases rx.inv; cases ry.inv
  refine SB.mul ⟨by simp; lia, fun h1 h2 => ?_, fun h1 h2 => ?_⟩ fun t' k => by rw [txt_mul]; exact ⟨ρ, φ, H, _, Ext.refl _ _ _ _, R.anyToks, .str _ _, q⟩
  · have : ((sOf l).length : Int) ≤ 1000 := by show ((l.toArray.size : Nat) : Int) ≤ _; simp; exact ai5 (by assumption)
    have h3 : (2 ^ 63 - 1 : Int) / 10000 ≤ (2 ^ 63 - 1) / n := by
      apply Int.le_ediv_of_mul_le (by lia)
      have : (2 ^ 63 - 1 : Int) / 10000 * n ≤ (2 ^ 63 - 1 : Int) / 10000 * 10000 := Int.mul_le_mul_of_nonneg_left hn (by decide)
      exact Int.le_trans this (by decide)
    have : (1000 : Int) ≤ (2 ^ 63 - 1 : Int) / 10000 := by decide
    lia
  · have e : (sOf l).length = l.length := by show l.toArray.size = _; simp
    unfold Builtin.Str.tooLong
    rw [e]
    have h4 : l.length * n.toNat ≤ 1000 * 10000 := Nat.mul_le_mul hl (by lia)
    rw [sizeLine_eq]
    simp; exact ar1 (by assumption) (by rfl)
theorem txt_join (x : List Nat) (ls : List (List Nat)) : Txt.join (sOf x) (ls.map fun l => sOf l) = sOf (x.intercalate ls) := by
  show (⟨_⟩ : Str) = ⟨_⟩
  congr 1
  cases ls with
  | nil => rfl
  | cons l ls =>
    simp only [List.map_cons, List.headD_cons, List.drop_succ_cons, List.drop_zero]
    have : ∀ (ls : List (List Nat)) (acc : List Nat), List.foldl (fun a p => a ++ (sOf x).cps ++ p.cps) acc.toArray (ls.map fun l => sOf l) = (acc ++ (ls.map fun l => x ++ l).flatten).toArray := by
      intro ls
      induction ls with
      | nil => intro acc; simp
      | cons m ls ih =>
        intro acc
        rw [List.map_cons, List.foldl_cons]
        have e : acc.toArray ++ (sOf x).cps ++ (sOf m).cps = (acc ++ (x ++ m)).toArray := by simp
        rw [e, ih]; simp
    rw [this]
    congr 1
    clear this
    unfold List.intercalate
    induction ls generalizing l with
    | nil => simp
    | cons m ls ih =>
      rw [List.intersperse_cons_cons, List.flatten_cons, List.flatten_cons, ← ih m]
      simp
inductive IsL (H : List AO) : AV → List AV → Prop
  | imm {xs} : IsL H (.list xs) xs
  | ref {i xs} (h : H[i]? = some (.list xs)) : IsL H (.ref i) xs
theorem IsL.get {v : AV} {xs : List AV} (d : IsL H v xs) {B : Base} {ρ φ : List Addr} {s : Shared} {c : Value} (R : Rep B ρ φ H s) (r : RV B ρ φ s.heap v c) :
    ∃ a vs, c = .ref a ∧ s.heap.PlainList a vs ∧ RVs B ρ φ s.heap xs vs.toList := by
  cases d with
  | imm => cases r.inv with | list ho hn hx => exact ⟨_, _, rfl, ho, hx⟩
  | ref h => cases r.inv with | ref ha => cases (R.obj _ _ _ h ha).inv with | list ho hx => exact ⟨_, _, rfl, ho, hx⟩
theorem sum_lens (ls : List (List Nat)) : ((ls.map fun l => sOf l).map (·.length)).sum = (ls.map List.length).sum := by
  rw [List.map_map]; rfl
theorem CALL_join {x : List Nat} {v : AV} {ls : List (List Nat)} {Q : AV → List AO → Prop} (hv : IsL H v (ls.map .str)) (hz : (ls.map List.length).sum + ls.length * x.length ≤ 16777216) (q : Q (.str (x.intercalate ls)) H) : CALL C H (.builtin "str.join") [.str x, v] Q := fun A ρ φ s cs hA R r => by
  cases r.inv2 with
  | mk rx rv =>
        cases rx.inv
        refine (hv.get R rv).elim fun a zz1 => zz1.elim fun vs zz2 => zz2.elim fun zz3 zz4 => zz4.elim fun ho hx => ?_; clear zz4 zz2 zz1; (first | subst zz3 | cases zz3)
        refine join_list ho.isList hx.strs (by rw [sum_lens, List.length_map]; show _ + _ * x.toArray.size ≤ _; simpa using hz) fun t' k => ?_
        rw [txt_join]
        exact ⟨ρ, φ, H, _, Ext.refl _ _ _ _, R.anyToks, .str _ _, q⟩
theorem cnt_count (c : Nat) : ∀ l : List Nat, PyProof.Rows.cnt c l = (l.count c : Int)
  | [] => rfl
  | n :: r => by
    rw [cnt_cons, cnt_count c r, List.count_cons]
    by_cases h : n = c
    · subst h; simp; exact Int.add_comm _ _
    · have : (n == c) = false := by simpa using h
      simp [h, this]
theorem CALL_count {l : List Nat} {c : Nat} {Q : AV → List AO → Prop} (q : Q (.int (l.count c)) H) : CALL C H (.builtin "str.count") [.str l, .str [c]] Q := fun A ρ φ s cs hA R r => by
  cases r.inv2 with
  | mk rx rv =>
        cases rx.inv; cases rv.inv
        refine SC.count ?_
        have : Txt.count (sOf l) (sOf [c]) = (l.count c : Int) := (count_cnt (sOf l) c).trans (cnt_count c l)
        rw [this]
        exact post_toks (C := C) R (.int _ _) q
theorem CALL_split {x y : List Nat} {ls : List (List Nat)} {Q : AV → List AO → Prop} (h1 : (decide ((sOf x).length < (sOf y).length) || decide (Builtin.Str.strKind (sOf x) < Builtin.Str.strKind (sOf y))) = false) (h2 : ((sOf y).length == 0) = false)
    (h3 : (Builtin.Str.occurrences (sOf x) (sOf y) 0 (sOf x).length ((sOf x).length + 1)).isEmpty = false) (h4 : Builtin.Str.partsBetween (sOf x) (Builtin.Str.occurrences (sOf x) (sOf y) 0 (sOf x).length ((sOf x).length + 1)) (sOf y).length = ls.map fun l => sOf l)
    (h5 : (sOf x).length ≤ 16777216) (h6 : ls.length ≤ 16777216) (q : Q (.list (ls.map .str)) H) : CALL C H (.builtin "str.split") [.str x, .str y] Q := fun A ρ φ s cs hA R r => by
  cases r.inv2 with
  | mk rx rv =>
        cases rx.inv; cases rv.inv
        refine call_meets PySem.F.slot_str_split (typeIs_str _ _ _) PySem.F.entry_str_split (PySem.F.args_str_split_2 _ _) (meets_str_split_sep _ _ _ _ h1 h2 h3 (sz_ok h5) (by rw [h4, List.length_map]; exact sz_ok h6)) ?_
        rw [h4]
        have hs : ∀ (ls : List (List Nat)) (tk : Nat) {h : Heap}, RVs C.B ρ φ h (ls.map .str) (strsFrom tk (ls.map fun l => sOf l)) := by
          intro ls
          induction ls with
          | nil => intro tk h; exact .nil
          | cons l ls ih => intro tk h; exact .cons (.str _ _) (ih _)
        exact post_push (C := C) R (v := .list _) (fun X n => .list ⟨0, Heap.get?_push_size _ rfl⟩ n (by simpa using hs ls _)) q
theorem CALL_ord {c : Nat} {Q : AV → List AO → Prop} (q : Q (.int c) H) : CALL C H (.builtin "ord") [.str [c]] Q := fun A ρ φ s cs hA R r => by
  cases r.inv1 with
  | mk rx => cases rx.inv; exact PySem.P.ord_of_char (c := c) (post_toks R (.int _ _) q)
theorem CALL_chr {i : Int} {Q : AV → List AO → Prop} (h0 : 0 ≤ i) (h1 : i ≤ 1114111) (q : Q (.str [i.toNat]) H) : CALL C H (.builtin "chr") [.int i] Q := fun A ρ φ s cs hA R r => by
  cases r.inv1 with
  | mk rx =>
      cases rx.inv
      refine PySem.P.chr_of_int (by simp; lia) ?_
      exact post_toks R (v := .str [i.toNat]) (.str [i.toNat] _) q
theorem CALL_len {v : AV} {xs : List AV} {Q : AV → List AO → Prop} (hv : IsL H v xs) (hz : xs.length ≤ 16777216) (q : Q (.int xs.length) H) : CALL C H (.builtin "len") [v] Q := fun A ρ φ s cs hA R r => by
  cases r.inv1 with
  | mk rx =>
      refine (hv.get R rx).elim fun a zz1 => zz1.elim fun vs zz2 => zz2.elim fun zz3 zz4 => zz4.elim fun ho hx => ?_; clear zz4 zz2 zz1; (first | subst zz3 | cases zz3)
      exact PyProof.Rows.len_list ho.isList (by rw [hx.size]; omega) (by rw [hx.size]; exact post_toks R (.int _ _) q)
theorem CALL_lent {xs : List AV} {Q : AV → List AO → Prop} (hz : xs.length ≤ 16777216) (q : Q (.int xs.length) H) : CALL C H (.builtin "len") [.tup xs] Q := fun A ρ φ s cs hA R r => by
  cases r.inv1 with
  | mk rx =>
      cases rx.inv with
      | tup ho hn hx => exact PyProof.Rows.len_tuple ho (by rw [hx.size]; omega) (by rw [hx.size]; exact post_toks R (.int _ _) q)
theorem CALL_max2 {a b : Int} {Q : AV → List AO → Prop} (q : Q (.int (max a b)) H) : CALL C H (.builtin "max") [.int a, .int b] Q := fun A ρ φ s cs hA R r => by
  cases r.inv2 with
  | mk rx ry =>
        cases rx.inv; cases ry.inv
        refine max_two_ints hA.handled fun h' tk k => ?_
        by_cases h : b > a
        · rw [if_pos h]; rw [show max a b = b by lia] at q; exact post_keeps R k (.int _ _) q
        · rw [if_neg h]; rw [show max a b = a by lia] at q; exact post_keeps R k (.int _ _) q
theorem CALL_max3 {a b c : Int} {Q : AV → List AO → Prop} (q : Q (.int (max (max a b) c)) H) : CALL C H (.builtin "max") [.int a, .int b, .int c] Q := fun A ρ φ s cs hA R r => by
  cases r.inv3 with
  | mk rx ry rz =>
          cases rx.inv; cases ry.inv; cases rz.inv
          refine max_three_ints hA.handled fun h' tk k => ?_
          split
          · split
            · rw [show max (max a b) c = c by lia] at q; exact post_keeps R k (.int _ _) q
            · rw [show max (max a b) c = b by lia] at q; exact post_keeps R k (.int _ _) q
          · split
            · rw [show max (max a b) c = c by lia] at q; exact post_keeps R k (.int _ _) q
            · rw [show max (max a b) c = a by lia] at q; exact post_keeps R k (.int _ _) q
theorem CALL_min2 {a b : Int} {Q : AV → List AO → Prop} (q : Q (.int (min a b)) H) : CALL C H (.builtin "min") [.int a, .int b] Q := fun A ρ φ s cs hA R r => by
  cases r.inv2 with
  | mk rx ry =>
        cases rx.inv; cases ry.inv
        refine min_two_ints hA.handled fun h' tk k => ?_
        by_cases h : b < a
        · rw [if_pos h]; rw [show min a b = b by lia] at q; exact post_keeps R k (.int _ _) q
        · rw [if_neg h]; rw [show min a b = a by lia] at q; exact post_keeps R k (.int _ _) q
noncomputable def intPairs : List Value → List (Int × Tok)
  | .int i t :: r => (i, t) :: intPairs r
  | _ => []
theorem intItems_of : ∀ {vs : List Value} {ns : List Int}, IntsAre vs ns → (intPairs vs).map (fun p => Value.int p.1 p.2) = vs ∧ (intPairs vs).map (·.1) = ns
  | _, _, .nil => ⟨rfl, rfl⟩
  | _, _, .cons i t h => by
    refine (intItems_of h).elim fun h1 h2 => ?_
    exact ⟨by show _ :: _ = _; rw [h1], by show _ :: _ = _; rw [h2]⟩
theorem preSum_range (f : Nat → Int) : ∀ n, preSum f n = ((List.range n).map f).sum
  | 0 => rfl
  | n + 1 => by
    rw [List.range_succ, List.map_append, List.sum_append, ← preSum_range f n]
    simp only [List.map_cons, List.map_nil, List.sum_cons, List.sum_nil, Int.add_zero]
    rfl
theorem preSum_list (l : List (Int × Tok)) (f : Nat → Int) (h : ∀ i (h : i < l.length), f i = l[i].1) : preSum f l.length = (l.map (·.1)).sum := by
  rw [preSum_range]
  congr 1
  apply List.ext_getElem (by simp)
  intro i h1 h2
  simp at h1 h2
  simp [h i h1]
theorem CALL_sum {v : AV} {ns : List Int} {Q : AV → List AO → Prop} (hv : IsL H v (ns.map .int)) (q : Q (.int ns.sum) H) : CALL C H (.builtin "sum") [v] Q := fun A ρ φ s cs hA R r => by
  cases r.inv1 with
  | mk rx =>
      refine (hv.get R rx).elim fun a zz1 => zz1.elim fun vs zz2 => zz2.elim fun zz3 zz4 => zz4.elim fun ho hx => ?_; clear zz4 zz2 zz1; (first | subst zz3 | cases zz3)
      refine (intItems_of hx.ints).elim fun e1 e2 => ?_
      have e3 : intItems (intPairs vs.toList).toArray = vs := by
        apply Array.toList_inj.mp
        rw [← e1]
        simp [intItems, e1]
      refine sum_intListG (xs := (intPairs vs.toList).toArray) hA.handled (by rw [e3]; exact ho.isList) fun h' tk t' k => ?_
      have e4 : preSum (numAt (intPairs vs.toList).toArray) (intPairs vs.toList).toArray.size = ns.sum := by
        rw [List.size_toArray, preSum_list _ _ (fun i hi => by unfold numAt; simp [hi]), e2]
      rw [e4]
      exact post_keeps R k (.int _ _) q
theorem CALL_tuple {v : AV} {xs : List AV} {Q : AV → List AO → Prop} (hv : IsL H v xs) (hz : xs.length ≤ 16777216) (q : Q (.tup xs) H) : CALL C H (.type "tuple") [v] Q := fun A ρ φ s cs hA R r => by
  cases r.inv1 with
  | mk rx =>
      refine (hv.get R rx).elim fun a zz1 => zz1.elim fun vs zz2 => zz2.elim fun zz3 zz4 => zz4.elim fun ho hx => ?_; clear zz4 zz2 zz1; (first | subst zz3 | cases zz3)
      refine call_tuple_list ho.isList (fun h' k => ?_) (sz_ok (by rw [hx.size]; exact hz))
      have hn : s.heap.get? h'.objs.size = none := by
        cases e : s.heap.get? h'.objs.size with
        | none => rfl
        | some o => exact absurd (Heap.lt_size (k _ _ e)) (Nat.lt_irrefl _)
      exact post_at' R hn (fun b o e => Heap.get?_push_of_some _ (k b o e)) (fun X n => .tup ⟨_, Heap.get?_push_size _ rfl, rfl, _, rfl⟩ n (hx.ext X)) q
theorem CALL_listt {xs : List AV} {Q : AV → List AO → Prop} (hz : xs.length ≤ 16777216) (q : Q (.list xs) H) : CALL C H (.type "list") [.tup xs] Q := fun A ρ φ s cs hA R r => by
  cases r.inv1 with
  | mk rx =>
      cases rx.inv with
      | tup ho hn hx =>
        have hsz := hx.size
        refine ho.elim fun o zz1 => zz1.elim fun e1 zz2 => zz2.elim fun e2 zz3 => zz3.elim fun n e3 => ?_; clear zz3 zz2 zz1; (try clear ho)
        refine call_list_seq _ (.inr rfl) e1 e2 e3 (fun h' c' k hl => ?_) (sz_ok (by exact ar61 (by assumption) (by assumption) (by rfl)))
        exact post_at R (Nat.le_refl _) k (fun X n => .list ⟨_, hl⟩ n (hx.ext X)) q
theorem CALL_lists {l : List Nat} {Q : AV → List AO → Prop} (hz : l.length ≤ 16777216) (q : Q (.ref H.length) (H ++ [.list (l.map fun c => .str [c])])) : CALL C H (.type "list") [.str l] Q := fun A ρ φ s cs hA R r => by
  cases r.inv1 with
  | mk rx =>
      cases rx.inv
      refine call_list_str hA.handled _ _ (fun h' tk acc c' k hl hi => ?_) (sz_ok (by simpa using hz))
      refine post_newAt R (ao := .list (l.map fun c => .str [c])) (Nat.le_refl _) k ⟨_, hl⟩ (fun X => .list ⟨_, hl⟩ (RVs.of_get ?_ fun i x v e1 e2 => ?_)) q
      · have := hi.1; simp at this ⊢; lia
      · rw [List.getElem?_map] at e1
        refine (Option.map_eq_some_iff.mp e1).elim fun c zz1 => zz1.elim fun e3 zz2 => ?_; clear zz1; (first | subst zz2 | cases zz2)
        refine (hi.2 i v (by simpa using e2)).elim fun c' zz1 => zz1.elim fun u zz2 => zz2.elim fun e4 e5 => ?_; clear zz2 zz1
        subst e5
        have : c = c' := by
          have : (sOf l).cps[i]? = l[i]? := by simp
          rw [this, e3] at e4; exact Option.some.inj e4
        subst this
        exact .str [c] u
theorem OP_addl {a b : AV} {xs ys : List AV} {Q : AV → List AO → Prop} (ha : IsL H a xs) (hb : IsL H b ys) (hz : xs.length + ys.length ≤ 16777216) (q : Q (.list (xs ++ ys)) H) : OP2 C H a b (binaryOp .Add) Q := fun A ρ φ s x y hA R rx ry => by
  refine (ha.get R rx).elim fun a zz1 => zz1.elim fun vs zz2 => zz2.elim fun zz3 zz4 => zz4.elim fun zz5 hx => zz5.elim fun n ho => ?_; clear zz5 zz4 zz2 zz1; (first | subst zz3 | cases zz3)
  refine (hb.get R ry).elim fun b zz1 => zz1.elim fun ws zz2 => zz2.elim fun zz3 zz4 => zz4.elim fun zz5 hy => zz5.elim fun m ho' => ?_; clear zz5 zz4 zz2 zz1; (first | subst zz3 | cases zz3)
  exact PySem.P.add_list (n := n) (n2 := m) ho ho' (post_push (C := C) R (v := .list _) (fun X n => .list ⟨0, Heap.get?_push_size _ rfl⟩ n (by simpa using (hx.ext X).append (hy.ext X))) q) (sz_ok (by rw [hx.size, hy.size]; exact hz))
theorem OP_addlM {a b : AV} {xs ys : List AV} {Q : AV → List AO → Prop} (ha : IsL H a xs) (hb : IsL H b ys) (hz : xs.length + ys.length ≤ 16777216) (q : Q (.ref H.length) (H ++ [.list (xs ++ ys)])) : OP2 C H a b (binaryOp .Add) Q := fun A ρ φ s x y hA R rx ry => by
  refine (ha.get R rx).elim fun a zz1 => zz1.elim fun vs zz2 => zz2.elim fun zz3 zz4 => zz4.elim fun zz5 hx => zz5.elim fun n ho => ?_; clear zz5 zz4 zz2 zz1; (first | subst zz3 | cases zz3)
  refine (hb.get R ry).elim fun b zz1 => zz1.elim fun ws zz2 => zz2.elim fun zz3 zz4 => zz4.elim fun zz5 hy => zz5.elim fun m ho' => ?_; clear zz5 zz4 zz2 zz1; (first | subst zz3 | cases zz3)
  exact PySem.P.add_list (n := n) (n2 := m) ho ho' (post_new (C := C) R (ao := .list _) rfl (fun X => .list ⟨0, Heap.get?_push_size _ rfl⟩ (by simpa using (hx.ext X).append (hy.ext X))) q) (sz_ok (by rw [hx.size, hy.size]; exact hz))
theorem RVs.rep {B : Base} {ρ φ : List Addr} {h : Heap} {xs : List AV} {vs : List Value} (r : RVs B ρ φ h xs vs) : ∀ k : Nat, RVs B ρ φ h (List.replicate k xs).flatten (List.replicate k vs).flatten
  | 0 => by simpa using RVs.nil
  | k + 1 => by simpa [List.replicate_succ] using r.append (RVs.rep r k)
theorem OP_mull {a : AV} {xs : List AV} {n : Int} {Q : AV → List AO → Prop} (ha : IsL H a xs) (h0 : 0 ≤ n) (hz : xs.length * n.toNat ≤ 16777216) (hn : n ≤ 16777216) (q : Q (.list (List.replicate n.toNat xs).flatten) H) : OP2 C H a (.int n) (binaryOp .Mult) Q := fun A ρ φ s x y hA R rx ry => by
  cases ry.inv
  rename_i t
  refine (ha.get R rx).elim fun a zz1 => zz1.elim fun vs zz2 => zz2.elim fun zz3 zz4 => zz4.elim fun zz5 hx => zz5.elim fun k ho => ?_; clear zz5 zz4 zz2 zz1; (first | subst zz3 | cases zz3)
  have hl : vs.size = xs.length := hx.size
  refine wpAny_binaryOp_repeat_ref (T := "list") (U := "int") (by decide) ⟨_, ho, rfl⟩ (fun s' => typeIs_int s' _ _) noFill_list_mul PySem.F.fills_int_mul PySem.F.slot_int_rmul repeat_list PySem.F.slot_int_index.lookup
    (call_meets PySem.F.slot_int_rmul (typeIs_int s _ _) PySem.F.entry_int_rmul (PySem.F.args_int_rmul_2 _ _) (int___rmul___int_list _ _ a vs k)
      ⟨ho, rfl, ⟨_, ho, rfl⟩, call_meets PySem.F.slot_list_mul ⟨_, ho, rfl⟩ PySem.F.entry_list_mul (PySem.F.args_list_mul_2 _ _)
        (AutoListH.list___mul___list_int_3 a vs k _ _ (by simp [Builtin.List.listFitsIndex]; lia) (by rw [hl]; lia) (by rw [hl]; simp [Builtin.List.listTooLong, sizeLine_eq]; assumption))
        ⟨ho, ?_⟩⟩)
  rename_i n
  have e : List.foldl (fun x1 x2 => x1 ++ x2) #[] (List.replicate (if vs.isEmpty = true then 0 else n.toNat) vs) = (List.replicate n.toNat vs.toList).flatten.toArray := by
    rw [listMul_foldl]
    cases he : vs.isEmpty with
    | true =>
      have : vs = #[] := by simpa using he
      subst this
      simp
    | false => simp
  rw [e]
  exact post_push (C := C) R (v := .list _) (fun X n => .list ⟨0, Heap.get?_push_size _ rfl⟩ n (by simpa using (hx.ext X).rep _)) q
end
section
variable {C : Cx} {H : List AO}
theorem OPT_list {v : AV} {xs : List AV} {Q : Bool → Prop} (hv : IsL H v xs) (hz : xs.length ≤ 16777216) (q : Q (!xs.isEmpty)) : OPT C H v Q := fun A ρ φ s x hA R r => by
  refine (hv.get R r).elim fun a zz1 => zz1.elim fun vs zz2 => zz2.elim fun zz3 zz4 => zz4.elim fun ho hx => ?_; clear zz4 zz2 zz1; (first | subst zz3 | cases zz3)
  refine wpAny_truthy_list ho.isList (by rw [hx.size]; omega) ⟨_, rfl, ?_⟩
  have : vs.isEmpty = xs.isEmpty := by
    have := hx.size
    cases xs with
    | nil => simp at this ⊢; exact this
    | cons _ _ => simp at this ⊢; intro z; rw [z] at this; simp at this
  rw [this]; exact q
end
end
section
noncomputable abbrev Cx.hold (C : Cx) (fs : List Nat) : Cx := { C with F := fs ++ C.F }
structure Wk (C : Cx) (target : Expr) (ρ φ : List Addr) (h : Heap) (fs : List Nat) (xs : List AV) (I : Addr) (h' : Heap) (wr fp : List Addr) (St : Nat → Heap → Prop) : Prop where
  st : St 0 h'
  keeps : ∀ a o, h.get? a = some o → h'.get? a = some o
  base : ∀ a o, C.B.h0.get? a = some o → h.get? a = some o
  alive : ∀ a, a ∈ ρ ∨ a ∈ φ → ∃ o, h.get? a = some o
  new : ∀ b ∈ wr, h.objs.size ≤ b
  wrIn : ∀ i g, St i g → ∀ b ∈ wr, ∃ o, g.get? b = some o ∧ isIt o = true
  fpIn : ∀ b ∈ fp, (b ∈ wr ∨ (b ∉ ρ ∧ b ∉ φ ∧ ∃ o, h.get? b = some o)) ∨ ∃ i ∈ fs, ρ[i]? = some b
  frame : ∀ i g g', St i g → (∀ b ∈ fp, ∀ o, g.get? b = some o → g'.get? b = some o) → St i g'
  item : ∀ (A : Around) (i : Nat) (s : Shared) (Q : Value → Shared → Prop), A.handled = none → i < xs.length → St i s.heap →
    (∀ v h2 tk, (∀ ρ' φ', ExtW ρ φ h ρ' φ' h2 → (∀ a, a ∈ ρ' ∨ a ∈ φ' → ∃ o, s.heap.get? a = some o) → ∃ x, xs[i]? = some x ∧ RV C.B ρ' φ' h2 x v) → St (i + 1) h2 → (∀ b o, b ∉ wr → s.heap.get? b = some o → h2.get? b = some o) → Q v { s with heap := h2, toks := tk }) →
    wpAny (model C.B.prog C.B.w) A (pyNext (.ref I)) (fun r s1 => match r with | none => False | some v => wpAny (model C.B.prog C.B.w) A (letOwnedTupleGo target (.ref I) v) (fun _ s2 => Q v s2) noE s1) noE s
  done : ∀ (A : Around) (s : Shared) (Q : Option Value → Shared → Prop), A.handled = none → St xs.length s.heap →
    (∀ h2 tk, (∀ b o, b ∉ wr → s.heap.get? b = some o → h2.get? b = some o) → Q none { s with heap := h2, toks := tk }) → wpAny (model C.B.prog C.B.w) A (pyNext (.ref I)) Q noE s
  self : ∀ (A : Around) (s : Shared) (Q : Value → Shared → Prop), A.handled = none → St 0 s.heap → Q (.ref I) s → wpAny (model C.B.prog C.B.w) A (pyIter (.ref I)) Q noE s
inductive ItE (C : Cx) (target : Expr) (ρ φ : List Addr) (h : Heap) (Q : List Nat → List AV → List AO → Prop) (it : Value) (s2 : Shared) : Prop
  | mk (ρ1 φ1 : List Addr) (H1 : List AO) (h1 : Heap) (fs : List Nat) (xs : List AV) (I : Addr) (wr fp : List Addr) (St : Nat → Heap → Prop) (e : it = .ref I) (X : Ext C.F ρ φ h ρ1 φ1 h1) (R : Rep C.B ρ1 φ1 H1 s2) (W : Wk C target ρ1 φ1 h1 fs xs I s2.heap wr fp St) (q : Q fs xs H1)
theorem ItE.elim {C : Cx} {target : Expr} {ρ φ : List Addr} {h : Heap} {Q : List Nat → List AV → List AO → Prop} {it : Value} {s2 : Shared} {goal : Prop} (it0 : ItE C target ρ φ h Q it s2) (k : ∀ (ρ1 φ1 : List Addr) (H1 : List AO) (h1 : Heap) (fs : List Nat) (xs : List AV) (I : Addr) (wr fp : List Addr) (St : Nat → Heap → Prop) (e : it = .ref I) (X : Ext C.F ρ φ h ρ1 φ1 h1) (R : Rep C.B ρ1 φ1 H1 s2) (W : Wk C target ρ1 φ1 h1 fs xs I s2.heap wr fp St) (q : Q fs xs H1), goal) : goal := ItE.rec (motive := fun _ => goal) k it0
inductive ItV (C : Cx) (target : Expr) (ρ φ : List Addr) (H : List AO) (h : Heap) (Q : List Nat → List AV → List AO → Prop) (it : Value) (s2 : Shared) : Prop
  | mk (fs : List Nat) (xs : List AV) (I : Addr) (wr fp : List Addr) (St : Nat → Heap → Prop) (e : it = .ref I) (R : Rep C.B ρ φ H s2) (W : Wk C target ρ φ h fs xs I s2.heap wr fp St) (q : Q fs xs H)
theorem ItV.elim {C : Cx} {target : Expr} {ρ φ : List Addr} {H : List AO} {h : Heap} {Q : List Nat → List AV → List AO → Prop} {it : Value} {s2 : Shared} {goal : Prop} (it0 : ItV C target ρ φ H h Q it s2) (k : ∀ (fs : List Nat) (xs : List AV) (I : Addr) (wr fp : List Addr) (St : Nat → Heap → Prop) (e : it = .ref I) (R : Rep C.B ρ φ H s2) (W : Wk C target ρ φ h fs xs I s2.heap wr fp St) (q : Q fs xs H), goal) : goal := ItV.rec (motive := fun _ => goal) k it0
noncomputable def EVI (C : Cx) (sc : Scope) (vars : Vars) (H : List AO) (target iter : Expr) (Q : List Nat → List AV → List AO → Prop) : Prop :=
  ∀ (A : Around) (env : Env) (ρ φ : List Addr) (s : Shared), AOk C.d A → EnvOk sc env → Rep C.B ρ φ H s → RVars C.B ρ φ env vars s.heap →
    wpAny (model C.B.prog C.B.w) A (eval iter env) (fun c s1 => wpAny (model C.B.prog C.B.w) A (pyIter c) (ItE C target ρ φ s.heap Q) noE s1) noE s
theorem ExtP.less {P : Str → Prop} {env : Env} {F F' : List Nat} {ρ ρ' φ φ' : List Addr} {h h' : Heap} (x : ExtP P env F' ρ φ h ρ' φ' h') (s : ∀ i ∈ F, i ∈ F') : ExtP P env F ρ φ h ρ' φ' h' := ⟨x.pre, x.keep, x.sub, fun i a hi e => x.held i a (s i hi) e⟩
section
variable {C : Cx} {target : Expr} {ρ φ ρk φk : List Addr} {h h' : Heap} {fs : List Nat} {xs : List AV} {I : Addr} {wr fp : List Addr} {St : Nat → Heap → Prop} {H : List AO} {s : Shared}
theorem Wk.step (W : Wk C target ρ φ h fs xs I h' wr fp St) {k : Nat} (R : Rep C.B ρk φk H s) (hst : St k s.heap) (hwr : ∀ b ∈ wr, b ∉ ρk ∧ b ∉ φk) {h2 : Heap} {tk : Nat}
    (hk : ∀ b o, b ∉ wr → s.heap.get? b = some o → h2.get? b = some o) : ExtW ρk φk s.heap ρk φk h2 ∧ Rep C.B ρk φk H { s with heap := h2, toks := tk } ∧ (∀ a o, s.heap.get? a = some o → isIt o = false → h2.get? a = some o) := by
  have hz : ∀ a o, s.heap.get? a = some o → isIt o = false → a ∉ wr := fun a o e z q => by
    refine (W.wrIn k _ hst a q).elim fun o' zz1 => zz1.elim fun e' z' => ?_; clear zz1
    rw [e] at e'; cases e'; rw [z] at z'; cases z'
  have W2 : ExtW ρk φk s.heap ρk φk h2 := ⟨List.prefix_rfl, fun a o e n z => ⟨hk a o (hz a o e z) e, n⟩⟩
  refine ⟨W2, R.step (s' := { s with heap := h2, toks := tk }) W2 (fun a o e => hk a o (fun q => absurd (Heap.lt_size (W.base a o e)) (Nat.not_lt.mpr (W.new a q))) (R.base a o e)) R.len R.nodup
    (fun i o a e1 e2 => .inl ⟨e1, e2, ?_⟩) (fun _ q => .inl q) R.disj (fun a q => ?_), fun a o e z => hk a o (hz a o e z) e⟩
  · have hm := List.mem_of_getElem? e2
    refine (R.alive a (.inl hm)).elim fun o' q => ?_
    show h2.get? a = _
    rw [q, hk a o' (fun z => (hwr a z).1 hm) q]
  · refine (R.alive a q).elim fun o' e => ?_
    refine ⟨o', hk a o' (fun z => ?_) e⟩
    rcases q with q | q
    · exact (hwr a z).1 q
    · exact (hwr a z).2 q
theorem Wk.vars (W : Wk C target ρ φ h fs xs I h' wr fp St) {k : Nat} {env : Env} {vars : Vars} (hst : St k s.heap) {h2 : Heap} (hk : ∀ b o, b ∉ wr → s.heap.get? b = some o → h2.get? b = some o)
    (W2 : ExtW ρk φk s.heap ρk φk h2) (V : RVars C.B ρk φk env vars s.heap) : RVars C.B ρk φk env vars h2 := by
  have hz : ∀ a o, s.heap.get? a = some o → isIt o = false → a ∉ wr := fun a o e z q => by
    refine (W.wrIn k _ hst a q).elim fun o' zz1 => zz1.elim fun e' z' => ?_; clear zz1
    rw [e] at e'; cases e'; rw [z] at z'; cases z'
  refine V.extW W2 (fun a o e q => ?_) fun _ q => q
  rcases q with q | ⟨x, q⟩
  · subst q
    refine V.loc.elim fun m zz1 => zz1.elim fun zz2 _ => zz2.elim fun ol zz3 => zz3.elim fun es zz4 => zz4.elim fun ep zz5 => zz5.elim fun e1 zz6 => zz6.elim fun e2 _ => ?_; clear zz6 zz5 zz4 zz3 zz2 zz1
    rw [e1] at e; cases e
    exact ⟨hk _ _ (hz _ _ e1 (isIt_dict e2)) e1, V.locn⟩
  · refine (V.iscell x a q).elim fun v zz1 => zz1.elim fun oc zz2 => zz2.elim fun e1 e2 => ?_; clear zz2 zz1
    rw [e1] at e; cases e
    exact ⟨hk _ _ (hz _ _ e1 (isIt_cell e2)) e1, V.celln x a q⟩
end
theorem Wk.kept {C : Cx} {target : Expr} {ρ φ ρk φk ρ5 φ5 : List Addr} {h h' h2 h5 : Heap} {fs : List Nat} {xs : List AV} {I : Addr} {wr fp : List Addr} {St : Nat → Heap → Prop} (W : Wk C target ρ φ h fs xs I h' wr fp St) {k : Nat} (st : St k h2)
    (hw : ∀ b ∈ wr, b ∉ ρk ∧ b ∉ φk) (away : ∀ {a o}, h.get? a = some o → a ∉ ρ → a ∉ φ → a ∉ ρk ∧ a ∉ φk) (kept : ∀ b o, h2.get? b = some o → b ∉ ρk → b ∉ φk → h5.get? b = some o ∧ b ∉ ρ5 ∧ b ∉ φ5) (held : ∀ (i : Nat) a, i ∈ fs → ρ[i]? = some a → h5.get? a = h2.get? a) :
    St k h5 ∧ ∀ b ∈ wr, b ∉ ρ5 ∧ b ∉ φ5 :=
  ⟨W.frame k h2 h5 st fun b hb o e => (W.fpIn b hb).elim (fun q => q.elim (fun q => (kept b o e (hw b q).1 (hw b q).2).1) fun zz1 => zz1.elim fun n1 zz2 => zz2.elim fun n2 zz3 => zz3.elim fun _ e1 => (away e1 n1 n2).elim fun q2 q3 => (kept b o e q2 q3).1) fun zz1 => zz1.elim fun i zz2 => zz2.elim fun hi e1 => (held i b hi e1).trans e,
    fun b hb => (W.wrIn k h2 st b hb).elim fun o zz1 => zz1.elim fun e _ => (kept b o e (hw b hb).1 (hw b hb).2).2⟩
theorem ExtP.adv {P : Str → Prop} {env : Env} {F : List Nat} {ρ0 φ0 ρk φk : List Addr} {g1 h h2 : Heap} {wr : List Addr} (X : ExtP P env F ρ0 φ0 g1 ρk φk h) (al : ∀ a ∈ ρk, ∃ o, h.get? a = some o) (new : ∀ b ∈ wr, g1.objs.size ≤ b) (hw : ∀ b ∈ wr, b ∉ ρk ∧ b ∉ φk)
    (hk : ∀ b o, b ∉ wr → h.get? b = some o → h2.get? b = some o) : ExtP P env F ρ0 φ0 g1 ρk φk h2 :=
  ⟨X.pre, fun a o e n n1 n2 => (X.keep a o e n n1 n2).elim fun q1 zz1 => zz1.elim fun q2 q3 => ⟨hk a o (fun q => absurd (Heap.lt_size e) (Nat.not_lt.mpr (new a q))) q1, q2, q3⟩, X.sub, fun i a hi e => by
    have m := List.mem_of_getElem? (getρ_of X.pre e)
    refine (al a m).elim fun o q => ?_
    rw [← X.held i a hi e, q]; exact hk a o (fun z => (hw a z).1 m) q⟩
theorem ExtP.away {P : Str → Prop} {env : Env} {F : List Nat} {ρ0 φ0 ρk φk : List Addr} {g1 h : Heap} (X : ExtP P env F ρ0 φ0 g1 ρk φk h) (hl : env.locals ∈ φ0) {a : Addr} {o : Obj} (e : g1.get? a = some o) (n1 : a ∉ ρ0) (n2 : a ∉ φ0) : h.get? a = some o ∧ a ∉ ρk ∧ a ∉ φk :=
  (X.keep a o e n1 (fun z => n2 (z ▸ hl)) fun _ _ _ => n2).elim fun q1 zz1 => zz1.elim fun q2 q3 => ⟨q1, q2, q3 n2⟩
inductive LF (C : Cx) (env : Env) (fs : List Nat) (ρ0 φ0 : List Addr) (g1 : Heap) (wr : List Addr) (N : Nat) (St : Nat → Heap → Prop) (Inv : Nat → Vars → List AO → Prop) (n : Nat) (s' : Shared) : Prop
  | mk (k : Nat) (ρk φk : List Addr) (Hk : List AO) (vk : Vars) (en : n = N + 1 - k) (hk : k ≤ N) (X : ExtS env (fs ++ C.F) ρ0 φ0 g1 ρk φk s'.heap) (R : Rep C.B ρk φk Hk s') (V : RVars C.B ρk φk env vk s'.heap) (st : St k s'.heap) (w : ∀ b ∈ wr, b ∉ ρk ∧ b ∉ φk) (i : Inv k vk Hk)
theorem LF.elim {C : Cx} {env : Env} {fs : List Nat} {ρ0 φ0 : List Addr} {g1 : Heap} {wr : List Addr} {N : Nat} {St : Nat → Heap → Prop} {Inv : Nat → Vars → List AO → Prop} {n : Nat} {s' : Shared} {goal : Prop} (it0 : LF C env fs ρ0 φ0 g1 wr N St Inv n s') (k : ∀ (k : Nat) (ρk φk : List Addr) (Hk : List AO) (vk : Vars) (en : n = N + 1 - k) (hk : k ≤ N) (X : ExtS env (fs ++ C.F) ρ0 φ0 g1 ρk φk s'.heap) (R : Rep C.B ρk φk Hk s') (V : RVars C.B ρk φk env vk s'.heap) (st : St k s'.heap) (w : ∀ b ∈ wr, b ∉ ρk ∧ b ∉ φk) (i : Inv k vk Hk), goal) : goal := LF.rec (motive := fun _ => goal) k it0
section
variable {C : Cx} {sc : Scope} {vars : Vars} {H : List AO}
theorem EX_for {target iter : Expr} {body : List Stmt} {pos : Pos} {Q : AF → Vars → List AO → Prop} (hfold : ∀ env x, foldedSetIterable iter env x = pure x) (Inv : List AV → Nat → Vars → List AO → Prop)
    (h : EVI C sc vars H target iter fun fs xs H1 => Inv xs 0 vars H1 ∧
      (∀ k x vars H, xs[k]? = some x → Inv xs k vars H → AS (C.hold fs) sc vars H target x fun v2 H2 => EXs (C.hold fs) sc v2 H2 body (TurnV (Inv xs (k + 1)) Q)) ∧
      ∀ vars H, Inv xs xs.length vars H → Q .next vars H) : EX C sc vars H (.For target iter body [] pos) Q := fun A env ρ φ s hA hE R V O => by
  refine wpAny_For (wpAny_mono (h A env ρ φ s hA hE R V) (fun c s1 h1 => wpAny_mono h1 (fun it s2 h2 => ?_) fun _ _ x => x) fun _ _ x => x) (hfold env)
  obtain ⟨ρ1, φ1, H1, g1, fs, xs, I, wr, fp, St, rfl, X1, R1, W, i0, istep, iend⟩ := h2
  have loc1 : env.locals ∈ φ1 := X1.sub _ V.locφ
  have O1 : CellOwn φ1 env := fun x a e => X1.sub a (O x a e)
  have g1alive : ∀ a, a ∈ ρ1 ∨ a ∈ φ1 → ∃ o, s2.heap.get? a = some o := R1.alive
  refine codeAny_mono (codeAny_forLoop_any (R := LEnd (PostS C env ρ φ s Q)) (LF C env fs ρ1 φ1 g1 wr xs.length St (Inv xs)) (fun n s' l => ?_) (xs.length + 1) ⟨0, ρ1, φ1, H1, vars, rfl, Nat.zero_le _, ⟨List.prefix_rfl, fun a o e n _ _ => ⟨W.keeps a o e, n, id⟩, fun _ q => q, fun i a _ e => ?_⟩, R1, ?_, W.st, ?_, i0⟩) fun r s' hr => hr.out fun _ => id
  · refine l.elim fun k ρk φk Hk vk zz1 hkl X Rk Vk hst hwr inv => ?_; (try clear l); (first | subst zz1 | cases zz1)
    have Ok : CellOwn φk env := fun x a e => X.sub a (O1 x a e)
    have adv : ∀ {h2 : Heap}, (∀ b o, b ∉ wr → s'.heap.get? b = some o → h2.get? b = some o) → ExtS env (fs ++ C.F) ρ1 φ1 g1 ρk φk h2 := fun hk => X.adv (fun a q => Rk.alive a (.inl q)) W.new hwr hk
    rcases Nat.lt_or_ge k xs.length with hlt | hge
    · refine wpAny_mono (W.item A k s' (fun v s2 => wpAny (model C.B.prog C.B.w) A (assign target env v) (fun _ s₂ => wpAny (model C.B.prog C.B.w) A (execs body env) (fun f s₃ => TurnR (PostS C env ρ φ s Q) (LF C env fs ρ1 φ1 g1 wr xs.length St (Inv xs)) (xs.length + 1 - k) s₃ f) noE s₂) noE s2) hA.handled hlt hst fun v h2 tk hv hst2 hk => ?_) (fun r s1 hr => ?_) fun _ _ x => x.elim
      · refine (W.step Rk hst hwr (tk := tk) hk).elim fun W2 zz1 => zz1.elim fun R2 hk2 => ?_; clear zz1
        have Xn := adv hk
        refine (hv ρk φk ⟨Xn.pre, fun a o e n _ => Xn.away loc1 e n.1 n.2⟩ Rk.alive).elim fun x zz1 => zz1.elim fun hx rv => ?_; clear zz1
        refine wpAny_mono (istep k x vk Hk hx inv A env ρk φk _ v hA hE R2 (W.vars hst hk W2 Vk) Ok.t rv) (fun _ s3 p => ?_) fun _ _ x => x
        refine p.elim fun ρ3 φ3 H3 v3 X3 R3 V3 q3 => ?_; (try clear p)
        refine wpAny_mono (q3 A env ρ3 φ3 s3 hA hE R3 V3 (Ok.ext X3.all)) (fun f s4 p => ?_) fun _ _ x => x
        refine p.elim fun ρ4 φ4 H4 v4 f4 X4 R4 V4 rf q4 => ?_; (try clear p)
        have X34 : ExtS env (fs ++ C.F) ρk φk h2 ρ4 φ4 s4.heap := X3.all.trans X4
        have XA := Xn.trans X34
        refine turn_of (J := fun v H => Inv xs (k + 1) v H) rf q4 (fun inv' => ?_) (X1.s.trans (XA.less fun i hi => List.mem_append_right _ hi)) R4 V4
        refine (W.kept hst2 hwr (fun e n1 n2 => (Xn.away loc1 e n1 n2).2) (fun b o e n1 n2 => X34.away (X.sub _ loc1) e n1 n2) fun i a hi e => X34.held i a (List.mem_append_left _ hi) (getρ_of X.pre e)).elim fun st5 w5 => ?_
        exact ⟨_, Nat.sub_succ_lt_self _ _ (Nat.lt_succ_of_lt hlt), k + 1, ρ4, φ4, H4, v4, rfl, hlt, XA, R4, V4, st5, w5, inv'⟩
      · cases r with
        | none => exact hr.elim
        | some v =>
          refine wpAny_mono hr (fun _ s2 h2 => wpAny_mono h2 (fun _ s3 h3 => wpAny_mono h3 (fun f s4 h4 => ?_) fun _ _ x => x.elim) fun _ _ x => x.elim) fun _ _ x => x.elim
          cases f <;> exact h4
    · have hkk : k = xs.length := Nat.le_antisymm hkl hge
      subst hkk
      refine wpAny_mono (W.done A s' _ hA.handled hst fun h2 tk hk => ?_) (fun _ _ h => h) fun _ _ x => x.elim
      refine (W.step Rk hst hwr (tk := tk) hk).elim fun W2 zz1 => zz1.elim fun R2 hk2 => ?_; clear zz1
      exact wpAny_execs_nil ⟨ρk, φk, Hk, vk, .next, X1.s.trans ((adv hk).less fun i hi => List.mem_append_right _ hi), R2, W.vars hst hk W2 Vk, .next, iend vk Hk inv⟩
  · refine (W.alive a (.inl (List.mem_of_getElem? e))).elim fun o q => ?_
    rw [q]; exact W.keeps a o q
  · have V1 := V.ext X1
    exact V1.extW ⟨List.prefix_rfl, fun a o e n _ => ⟨W.keeps a o e, n⟩⟩ (fun a o e q => ⟨W.keeps a o e, q.elim (fun q => q ▸ V1.locn) fun zz1 => zz1.elim fun x q => V1.celln x a q⟩) fun _ q => q
  · exact fun b hb => ⟨fun q => (W.alive b (.inl q)).elim fun _ e => absurd (Heap.lt_size e) (Nat.not_lt.mpr (W.new b hb)), fun q => (W.alive b (.inr q)).elim fun _ e => absurd (Heap.lt_size e) (Nat.not_lt.mpr (W.new b hb))⟩
end
end
section
theorem letgo_other {M : Model} {A : Around} {s : Shared} {target : Expr} {I : Addr} {v : Value} {Q : Unit → Shared → Prop} {o : Obj} {n : String} (ho : s.heap.get? I = some o) (hc : o.cls = .type n) (hd : ∃ vs, o.data = .fields vs)
    (hn : (["enumerate", "zip", "dict_itemiterator", "dict_reverseitemiterator", "odict_iterator", "itertools.zip_longest", "itertools.pairwise"] : List String).contains n = false) (h : Q () s) : wpAny M A (letOwnedTupleGo target (.ref I) v) Q noE s := by
  obtain ⟨vs, hd⟩ := hd
  have go : ∀ es k p, wpAny M A (letOwnedTupleGo (.Tuple es k p) (.ref I) v) Q noE s := fun es k p => by
    unfold letOwnedTupleGo
    cases v with
    | ref a =>
      refine wpAny_bind (wpAny_load ho ?_)
      rw [hc, hd]
      show wpAny M A (if (_ && _) = true then _ else _) Q noE s
      rw [hn]
      exact wpAny_pure h
    | _ => exact wpAny_pure h
  cases target with
  | Tuple es k p => exact go es k p
  | List es p => exact go es 0 p
  | _ => exact wpAny_pure h
noncomputable def itName (n : String) : Bool := (["list_iterator", "tuple_iterator", "str_iterator", "str_ascii_iterator", "range_iterator", "dict_keyiterator"] : List String).contains n
theorem itName_not {n : String} (h : itName n = true) : (["enumerate", "zip", "dict_itemiterator", "dict_reverseitemiterator", "odict_iterator", "itertools.zip_longest", "itertools.pairwise"] : List String).contains n = false := by
  unfold itName at h
  simp only [List.contains_eq_mem, List.mem_cons, List.not_mem_nil, or_false, decide_eq_true_eq] at h
  rcases h with rfl | rfl | rfl | rfl | rfl | rfl <;> decide
theorem itName_isIt {o : Obj} {n : String} (hc : o.cls = .type n) (hd : ∃ vs, o.data = .fields vs) (h : itName n = true) : isIt o = true := by
  obtain ⟨vs, hd⟩ := hd
  unfold isIt
  rw [hd, hc]
  unfold itName at h
  simp only [List.contains_eq_mem, List.mem_cons, List.not_mem_nil, or_false, decide_eq_true_eq] at h
  rcases h with rfl | rfl | rfl | rfl | rfl | rfl <;> (dsimp only; decide)
section
variable {C : Cx} {sc : Scope} {vars : Vars} {H : List AO}
theorem Wk.ofWalks {target : Expr} {ρ φ : List Addr} {h h' : Heap} {fs : List Nat} {xs : List AV} {I : Addr} {fp : List Addr} {n : Nat} {P : Nat → Value → Prop} {St : Nat → Heap → Prop} (Ws : ∀ A : Around, A.handled = none → Walks C.B.prog C.B.w A I fp [I] n P St) (hn : n = xs.length)
    (st : St 0 h') (keeps : ∀ a o, h.get? a = some o → h'.get? a = some o) (base : ∀ a o, C.B.h0.get? a = some o → h.get? a = some o) (alive : ∀ a, a ∈ ρ ∨ a ∈ φ → ∃ o, h.get? a = some o) (new : h.objs.size ≤ I)
    (hI : ∀ i g, St i g → ∃ o n, g.get? I = some o ∧ o.cls = .type n ∧ (∃ vs, o.data = .fields vs) ∧ itName n = true)
    (fpIn : ∀ b ∈ fp, (b = I ∨ (b ∉ ρ ∧ b ∉ φ ∧ ∃ o, h.get? b = some o)) ∨ ∃ i ∈ fs, ρ[i]? = some b)
    (val : ∀ i v, i < xs.length → P i v → ∀ ρ' φ' h2, ExtW ρ φ h ρ' φ' h2 → ∃ x, xs[i]? = some x ∧ RV C.B ρ' φ' h2 x v) : Wk C target ρ φ h fs xs I h' [I] fp St where
  st := st
  keeps := keeps
  base := base
  alive := alive
  new := fun b hb => by rw [List.mem_singleton] at hb; subst hb; exact new
  wrIn := fun i g hst b hb => by
    rw [List.mem_singleton] at hb; subst hb
    refine (hI i g hst).elim fun o zz1 => zz1.elim fun n zz2 => zz2.elim fun e1 zz3 => zz3.elim fun e2 zz4 => zz4.elim fun e3 e4 => ?_; clear zz4 zz3 zz2 zz1
    exact ⟨o, e1, itName_isIt e2 e3 e4⟩
  fpIn := fun b hb => by
    rcases fpIn b hb with (q | q) | q
    · exact .inl (.inl (by simp [q]))
    · exact .inl (.inr q)
    · exact .inr q
  frame := fun i g g' a b => (Ws ⟨none, 0, none, none, 0⟩ rfl).frame i g g' a b
  item := fun A i s Q hA hi hst hQ => (Ws A hA).item i s _ _ (by exact as18 (by assumption) (by assumption)) hst fun v h2 tk hp hst2 hk => by
    refine (hI (i + 1) h2 hst2).elim fun o zz1 => zz1.elim fun n zz2 => zz2.elim fun e1 zz3 => zz3.elim fun e2 zz4 => zz4.elim fun e3 e4 => ?_; clear zz4 zz3 zz2 zz1
    exact letgo_other (s := { s with heap := h2, toks := tk }) e1 e2 e3 (itName_not e4) (hQ v h2 tk (fun ρ' φ' X _ => val i v hi hp ρ' φ' h2 X) hst2 hk)
  done := fun A s Q hA hst hQ => (Ws A hA).done s _ _ (by rw [hn]; exact hst) hQ
  self := fun A s Q hA hst hQ => (Ws A hA).self 0 s Q noE hst hQ
noncomputable def ITV (C : Cx) (H : List AO) (target : Expr) (v : AV) (Q : List Nat → List AV → List AO → Prop) : Prop :=
  ∀ (A : Around) (ρ φ : List Addr) (s : Shared) (c : Value), AOk C.d A → Rep C.B ρ φ H s → RV C.B ρ φ s.heap v c →
    wpAny (model C.B.prog C.B.w) A (pyIter c) (ItV C target ρ φ H s.heap Q) noE s
theorem EVI_val {target iter : Expr} {Q : List Nat → List AV → List AO → Prop} (h : EV C sc vars H iter fun v H1 => ITV C H1 target v Q) : EVI C sc vars H target iter Q := fun A env ρ φ s hA hE R V =>
  wpAny_mono (h A env ρ φ s hA hE R V) (fun c s1 zz1 => zz1.elim fun ρ1 φ1 H1 v1 X1 R1 rv q1 => wpAny_mono (q1 A ρ1 φ1 s1 c hA R1 rv) (fun it s2 zz1 => zz1.elim fun fs xs I wr fp St e R2 W q => ⟨ρ1, φ1, H1, s1.heap, fs, xs, I, wr, fp, St, e, X1, R2, W, q⟩) fun _ _ x => x) fun _ _ x => x
theorem ITV_list {target : Expr} {xs : List AV} {Q : List Nat → List AV → List AO → Prop} (q : Q [] xs H) : ITV C H target (.list xs) Q := fun A ρ φ s c hA R r => by
  cases r.inv with
  | list ho hn hx =>
    rename_i a vs
    obtain ⟨o, eo⟩ : ∃ o, s.heap.get? a = some o := let ⟨_, e⟩ := ho; ⟨_, e⟩
    have hne : a ≠ s.heap.objs.size := Nat.ne_of_lt (Heap.lt_size eo)
    refine wpAny_pyIter_list ho.isList ⟨[], xs, s.heap.objs.size, [s.heap.objs.size], [s.heap.objs.size, a], (fun i h => h.IsListIter s.heap.objs.size a i ∧ h.IsList a vs), rfl, R.push _, ?_, q⟩
    refine Wk.ofWalks (n := vs.size) (P := fun i v => vs[i]? = some v) (fun A hA => Walks.list hA _ a hne vs) hx.size ⟨⟨_, Heap.get?_push_size _ rfl, rfl, rfl⟩, ho.isList.at fun o e => Heap.get?_push_of_some _ e⟩ (fun b o e => Heap.get?_push_of_some _ e) R.base R.alive (Nat.le_refl _)
      (fun i g hst => let ⟨⟨o, e1, e2, e3⟩, _⟩ := hst; ⟨o, _, e1, e2, ⟨_, e3⟩, by decide⟩) (fun b hb => ?_) (fun i v _ hp ρ' φ' h2 X => ?_)
    · simp at hb
      rcases hb with rfl | rfl
      · exact .inl (.inl rfl)
      · exact .inl (.inr ⟨hn.1, hn.2, o, eo⟩)
    · exact (hx.ext X).get' (i := i) (v := v) (by simpa using hp)
theorem ITV_ref {target : Expr} {k : Nat} {xs : List AV} {Q : List Nat → List AV → List AO → Prop} (hk : H[k]? = some (.list xs)) (q : Q [k] xs H) : ITV C H target (.ref k) Q := fun A ρ φ s c hA R r => by
  cases r.inv with
  | ref ha => cases (R.obj _ _ _ hk ha).inv with
    | list ho hx =>
      rename_i a vs
      obtain ⟨o, eo⟩ : ∃ o, s.heap.get? a = some o := let ⟨_, e⟩ := ho; ⟨_, e⟩
      have hne : a ≠ s.heap.objs.size := Nat.ne_of_lt (Heap.lt_size eo)
      refine wpAny_pyIter_list ho.isList ⟨[k], xs, s.heap.objs.size, [s.heap.objs.size], [s.heap.objs.size, a], (fun i h => h.IsListIter s.heap.objs.size a i ∧ h.IsList a vs), rfl, R.push _, ?_, q⟩
      refine Wk.ofWalks (n := vs.size) (P := fun i v => vs[i]? = some v) (fun A hA => Walks.list hA _ a hne vs) hx.size ⟨⟨_, Heap.get?_push_size _ rfl, rfl, rfl⟩, ho.isList.at fun o e => Heap.get?_push_of_some _ e⟩ (fun b o e => Heap.get?_push_of_some _ e) R.base R.alive (Nat.le_refl _)
        (fun i g hst => let ⟨⟨o, e1, e2, e3⟩, _⟩ := hst; ⟨o, _, e1, e2, ⟨_, e3⟩, by decide⟩) (fun b hb => ?_) (fun i v _ hp ρ' φ' h2 X => ?_)
      · simp at hb
        rcases hb with rfl | rfl
        · exact .inl (.inl rfl)
        · exact .inr ⟨k, by simp, ha⟩
      · exact (hx.ext X).get' (i := i) (v := v) (by simpa using hp)
theorem sign_val {B : Base} {l : List Nat} {i : Nat} {v : Value} (h : SignAt (sOf l) i v) (ρ' φ' : List Addr) (h2 : Heap) : ∃ x, (l.map fun c => AV.str [c])[i]? = some x ∧ RV B ρ' φ' h2 x v := by
  refine h.elim fun c zz1 => zz1.elim fun u zz2 => zz2.elim fun e1 zz3 => ?_; clear zz2 zz1; (try clear h); (first | subst zz3 | cases zz3)
  have e2 : l[i]? = some c := by simpa using e1
  exact ⟨.str [c], by rw [List.getElem?_map, e2]; rfl, .str [c] u⟩
theorem ITV_str {target : Expr} {l : List Nat} {Q : List Nat → List AV → List AO → Prop} (q : Q [] (l.map fun c => .str [c]) H) : ITV C H target (.str l) Q := fun A ρ φ s c hA R r => by
  cases r.inv
  rename_i t
  cases ha : (sOf l).cps.all (· < 128)
  · refine wpAny_pyIter_wide ha ⟨[], l.map fun c => .str [c], s.heap.objs.size, [s.heap.objs.size], [s.heap.objs.size], (fun i h => h.IsStrIter s.heap.objs.size "str_iterator" (sOf l) t i), rfl, R.push _, ?_, q⟩
    exact Wk.ofWalks (P := SignAt (sOf l)) (fun A hA => Walks.strWide hA _ _ t) (by simp) ⟨_, Heap.get?_push_size _ rfl, rfl, rfl⟩ (fun b o e => Heap.get?_push_of_some _ e) R.base R.alive (Nat.le_refl _)
      (fun i g hst => hst.elim fun o zz1 => zz1.elim fun e1 zz2 => zz2.elim fun e2 e3 => ⟨o, _, e1, e2, ⟨_, e3⟩, by decide⟩) (fun b hb => .inl (.inl (by simpa using hb))) (fun i v _ hp ρ' φ' h2 X => sign_val hp ρ' φ' h2)
  · refine wpAny_pyIter_ascii ha ⟨[], l.map fun c => .str [c], s.heap.objs.size, [s.heap.objs.size], [s.heap.objs.size], (fun i h => h.IsStrIter s.heap.objs.size "str_ascii_iterator" (sOf l) t i), rfl, R.push _, ?_, q⟩
    exact Wk.ofWalks (P := SignAt (sOf l)) (fun A hA => Walks.strAscii hA _ _ t) (by simp) ⟨_, Heap.get?_push_size _ rfl, rfl, rfl⟩ (fun b o e => Heap.get?_push_of_some _ e) R.base R.alive (Nat.le_refl _)
      (fun i g hst => hst.elim fun o zz1 => zz1.elim fun e1 zz2 => zz2.elim fun e2 e3 => ⟨o, _, e1, e2, ⟨_, e3⟩, by decide⟩) (fun b hb => .inl (.inl (by simpa using hb))) (fun i v _ hp ρ' φ' h2 X => sign_val hp ρ' φ' h2)
end
end
section
section
variable {C : Cx} {sc : Scope} {vars : Vars} {H : List AO}
noncomputable def CALLr (C : Cx) (H : List AO) (f : Value) (vs : List AV) (P : List AO → List Addr → List Addr → Shared → Value → Shared → Prop) : Prop :=
  ∀ (A : Around) (ρ φ : List Addr) (s : Shared) (xs : List Value), AOk C.d A → Rep C.B ρ φ H s → RVs C.B ρ φ s.heap vs xs →
    wpAny (model C.B.prog C.B.w) A (call f xs) (P H ρ φ s) noE s
theorem call_raw {fn : Expr} {es : List Expr} {pos : Pos} {P : List AO → List Addr → List Addr → Shared → Value → Shared → Prop} (O : C.B.Ok) (hp : plainArgs es = true)
    (hev : ∀ env, eval (.Call fn es [] pos) env = (do callWith pos (← eval fn env) [] (backTo pos (starEach es env)) []))
    (h : EV C sc vars H fn fun fv H1 => ∃ f, fv = .val f ∧ keepOk C.B.K f = true ∧ EVs C sc vars H1 es fun vs H2 => CALLr C H2 f vs P) {A : Around} {env : Env} {ρ φ : List Addr} {s : Shared} (hA : AOk C.d A) (hE : EnvOk sc env)
    (R : Rep C.B ρ φ H s) (V : RVars C.B ρ φ env vars s.heap) : wpAny (model C.B.prog C.B.w) A (eval (.Call fn es [] pos) env) (fun v s' => ∃ ρ1 φ1 H1 s1, Ext C.F ρ φ s.heap ρ1 φ1 s1.heap ∧ Rep C.B ρ1 φ1 H1 s1 ∧ P H1 ρ1 φ1 s1 v s') noE s := by
  rw [hev]
  refine wpAny_bind (wpAny_mono (h A env ρ φ s hA hE R V) (fun fv s1 ⟨ρ1, φ1, H1, v1, X1, R1, rv, f, e, hk, q1⟩ => ?_) fun _ _ x => x)
  subst e
  cases rv.eqv
  have inK : ∀ {ρ φ H s}, Rep C.B ρ φ H s → C.B.K.In s.heap := fun R a o e => R.base _ _ (O.inK a o e)
  refine callWith_of (P := fun h => C.B.K.In h) (by rw [plain_any es hp]; rfl) (fun h X => keepOk_looks hk X) ?_
  have fin := wpAny_mono (evs_ok (env := env) (pos := pos) es hp q1 hA hE R1 (V.ext X1)) (Q' := fun vs s2 => C.B.K.In s2.heap ∧ wpAny (model C.B.prog C.B.w) A (call fv ([] ++ vs)) (fun v s' => ∃ ρ1 φ1 H1 s1, Ext C.F ρ φ s.heap ρ1 φ1 s1.heap ∧ Rep C.B ρ1 φ1 H1 s1 ∧ P H1 ρ1 φ1 s1 v s') noE s2) (fun vs s2 zz1 => zz1.elim fun ρ2 φ2 H2 vs2 X2 R2 rvs q2 =>
    ⟨inK R2, wpAny_mono (q2 A ρ2 φ2 s2 _ hA R2 rvs) (fun v s3 p => ⟨ρ2, φ2, H2, s2, X1.trans X2, R2, p⟩) fun _ _ x => x⟩) fun _ _ x => x
  cases es with
  | nil =>
    refine evalArgs_nil3 ?_
    have hn : CALLr C H1 fv [] P := q1
    exact ⟨inK R1, wpAny_mono (hn A ρ1 φ1 s1 _ hA R1 .nil) (fun v s3 p => ⟨ρ1, φ1, H1, s1, X1, R1, p⟩) fun _ _ x => x⟩
  | cons e r =>
    refine (starEach_plain (env := env) hp).elim fun e1 e2 => ?_
    rw [e1] at fin ⊢
    exact evalArgs_plain fin
noncomputable def rng (a : Int) (n : Nat) : List AV := (List.range n).map fun i => .int (a + (i : Nat))
theorem range_wk {target : Expr} {ρ φ : List Addr} {H1 : List AO} {s1 s2 : Shared} {a b : Int} {A : Around} {r : Addr} {t u v : Tok} (R : Rep C.B ρ φ H1 s1) (R2 : Rep C.B ρ φ H1 s2) (k : ∀ a o, s1.heap.get? a = some o → s2.heap.get? a = some o) (hz : s1.heap.objs.size ≤ s2.heap.objs.size)
    (hr : IsRange s2.heap r a b 1 t u v) (ha : a.natAbs ≤ 2 ^ 40) (hb : b.natAbs ≤ 2 ^ 40) {Q : List Nat → List AV → List AO → Prop} (q : Q [] (rng a (b - a).toNat) H1) :
    wpAny (model C.B.prog C.B.w) A (pyIter (.ref r)) (ItV C target ρ φ H1 s1.heap Q) noE s2 := by
  have hs : Builtin.Range.small a b 1 = true := by
    unfold Builtin.Range.small
    rw [rangeSize_nat]
    simp only [Builtin.Range.rangeFitsLong]
    simp
    have ha' := i40 ha
    have hb' := i40 hb
    clear ha hb
    exact ⟨⟨⟨⟨by omega, by omega⟩, by omega, by omega⟩, Int.le_trans (by decide) (Int.le_max_right _ _), Int.max_lt.mpr ⟨by omega, by decide⟩⟩, .inr ⟨by omega, by omega⟩⟩
  refine wpAny_pyIter_range hr hs ⟨[], rng a (b - a).toNat, s2.heap.objs.size, [s2.heap.objs.size], [s2.heap.objs.size], (fun i h => IsRangeIter h s2.heap.objs.size (a + (i : Nat) * 1) (((b - a).toNat : Int) - (i : Nat)) 1), rfl, R2.push _, ?_, q⟩
  refine Wk.ofWalks (P := fun i v => ∃ t, v = .int (a + i * 1) t) (fun A hA => Walks.range hA _ a 1 _) (by simp [rng]) ?_ (fun b o e => Heap.get?_push_of_some _ (k b o e)) R.base R.alive hz
    (fun i g hst => ⟨_, _, hst, rfl, ⟨_, rfl⟩, by decide⟩) (fun b hb => .inl (.inl (by simpa using hb))) (fun i v hi hp ρ' φ' h2 X => ?_)
  · show IsRangeIter _ _ _ _ _
    have := Heap.get?_push_size s2.heap (o := { cls := .type "range_iterator", data := .fields #[rawInt a, rawInt (Builtin.Range.rangeSize a b 1), rawInt 1] }) rfl
    rw [rangeSize_nat] at this
    rw [rangeSize_nat]
    simpa using this
  · refine hp.elim fun t zz1 => ?_; (try clear hp); (first | subst zz1 | cases zz1)
    refine ⟨.int (a + i * 1), ?_, .int _ t⟩
    have hi' : i < (b - a).toNat := by simpa [rng] using hi
    unfold rng
    rw [List.getElem?_map, List.getElem?_range hi']
    simp
theorem EVI_range1 {target fn e : Expr} {pos : Pos} {Q : List Nat → List AV → List AO → Prop} (O : C.B.Ok) (hp : plainArgs [e] = true)
    (hev : ∀ env, eval (.Call fn [e] [] pos) env = (do callWith pos (← eval fn env) [] (backTo pos (starEach [e] env)) []))
    (h : EV C sc vars H fn fun fv H1 => fv = .val (.type "range") ∧ EV C sc vars H1 e fun v H2 => ∃ n, v = .int n ∧ n.natAbs ≤ 2 ^ 40 ∧ Q [] (rng 0 n.toNat) H2) : EVI C sc vars H target (.Call fn [e] [] pos) Q := fun A env ρ φ s hA hE R V => by
  refine wpAny_mono (call_raw (P := fun H1 ρ φ s1 v s2 => wpAny (model C.B.prog C.B.w) A (pyIter v) (ItV C target ρ φ H1 s1.heap Q) noE s2) O hp hev
    (h.mono fun fv H1 zz1 => zz1.elim fun e1 q => ⟨.type "range", e1, rfl, q.mono fun v H2 zz1 => zz1.elim fun n zz2 => zz2.elim fun e2 zz3 => zz3.elim fun hn q2 => ?_⟩) hA hE R V) (fun c s1 zz1 => zz1.elim fun ρ1 zz2 => zz2.elim fun φ1 zz3 => zz3.elim fun H1 zz4 => zz4.elim fun s0 zz5 => zz5.elim fun X1 zz6 => zz6.elim fun R1 p => wpAny_mono p (fun it s2 zz1 => zz1.elim fun fs xs I wr fp St e R2 W q => ⟨ρ1, φ1, H1, s0.heap, fs, xs, I, wr, fp, St, e, X1, R2, W, q⟩) fun _ _ x => x) fun _ _ x => x
  subst e2
  intro A' ρ φ s xs hA' R' rx
  cases rx.inv1 with
  | mk r1 =>
      cases r1.inv
      refine call_range_1 (range_wk R' (R'.push _) (fun b o e => Heap.get?_push_of_some _ e) (by rw [Heap.size_push]; exact Nat.le_add_right _ _) (Heap.get?_push_size _ rfl) (by decide) hn ?_)
      simpa using q2
theorem EVI_range2 {target fn e e' : Expr} {pos : Pos} {Q : List Nat → List AV → List AO → Prop} (O : C.B.Ok) (hp : plainArgs [e, e'] = true)
    (hev : ∀ env, eval (.Call fn [e, e'] [] pos) env = (do callWith pos (← eval fn env) [] (backTo pos (starEach [e, e'] env)) []))
    (h : EV C sc vars H fn fun fv H1 => fv = .val (.type "range") ∧ EV C sc vars H1 e fun v H2 => EV C sc vars H2 e' fun v' H3 => ∃ a b, v = .int a ∧ v' = .int b ∧ a.natAbs ≤ 2 ^ 40 ∧ b.natAbs ≤ 2 ^ 40 ∧ Q [] (rng a (b - a).toNat) H3) : EVI C sc vars H target (.Call fn [e, e'] [] pos) Q := fun A env ρ φ s hA hE R V => by
  refine wpAny_mono (call_raw (P := fun H1 ρ φ s1 v s2 => wpAny (model C.B.prog C.B.w) A (pyIter v) (ItV C target ρ φ H1 s1.heap Q) noE s2) O hp hev
    (h.mono fun fv H1 zz1 => zz1.elim fun e1 q => ⟨.type "range", e1, rfl, q.mono fun v H2 q' => q'.mono fun v' H3 zz1 => zz1.elim fun a zz2 => zz2.elim fun b zz3 => zz3.elim fun e2 zz4 => zz4.elim fun e3 zz5 => zz5.elim fun ha zz6 => zz6.elim fun hb q2 => ?_⟩) hA hE R V) (fun c s1 zz1 => zz1.elim fun ρ1 zz2 => zz2.elim fun φ1 zz3 => zz3.elim fun H1 zz4 => zz4.elim fun s0 zz5 => zz5.elim fun X1 zz6 => zz6.elim fun R1 p => wpAny_mono p (fun it s2 zz1 => zz1.elim fun fs xs I wr fp St e R2 W q => ⟨ρ1, φ1, H1, s0.heap, fs, xs, I, wr, fp, St, e, X1, R2, W, q⟩) fun _ _ x => x) fun _ _ x => x
  subst e2 e3
  intro A' ρ φ s xs hA' R' rx
  cases rx.inv2 with
  | mk r1 r2 =>
        cases r1.inv; cases r2.inv
        refine call_range_2 (range_wk R' (R'.push _) (fun b o e => Heap.get?_push_of_some _ e) (by rw [Heap.size_push]; exact Nat.le_add_right _ _) (Heap.get?_push_size _ rfl) ha hb q2)
end
end
section
section
variable {C : Cx} {sc : Scope} {vars : Vars} {H : List AO}
noncomputable def enumAV (ys : List AV) : List AV := ys.zipIdx.map fun p => .tup [.int (p.2 : Nat), p.1]
theorem EVI_enum {elts : List Expr} {k : Nat} {tpos : Pos} {fn e : Expr} {pos : Pos} {Q : List Nat → List AV → List AO → Prop} (O : C.B.Ok) (hp : plainArgs [e] = true)
    (hev : ∀ env, eval (.Call fn [e] [] pos) env = (do callWith pos (← eval fn env) [] (backTo pos (starEach [e] env)) []))
    (h : EV C sc vars H fn fun fv H1 => fv = .val (.type "enumerate") ∧ EV C sc vars H1 e fun v H2 => ∃ ys, v = .list ys ∧ Q [] (enumAV ys) H2) : EVI C sc vars H (.Tuple elts k tpos) (.Call fn [e] [] pos) Q := fun A env ρ φ s hA hE R V => by
  refine wpAny_mono (call_raw (P := fun H1 ρ φ s1 v s2 => wpAny (model C.B.prog C.B.w) A (pyIter v) (ItV C (.Tuple elts k tpos) ρ φ H1 s1.heap Q) noE s2) O hp hev
    (h.mono fun fv H1 zz1 => zz1.elim fun e1 q => ⟨.type "enumerate", e1, rfl, q.mono fun v H2 ⟨ys, e2, q2⟩ => ?_⟩) hA hE R V) (fun c s1 ⟨ρ1, φ1, H1, s0, X1, R1, p⟩ => wpAny_mono p (fun it s2 ⟨fs, xs, I, wr, fp, St, e, R2, W, q⟩ => ⟨ρ1, φ1, H1, s0.heap, fs, xs, I, wr, fp, St, e, X1, R2, W, q⟩) fun _ _ x => x) fun _ _ x => x
  subst e2
  intro A' ρ φ s xs hA' R' rx
  cases rx.inv1 with
  | mk r1 => cases r1.inv with
      | list ho hn hx =>
        rename_i l items
        obtain ⟨o, eo⟩ : ∃ o, s.heap.get? l = some o := let ⟨_, e⟩ := ho; ⟨_, e⟩
        have hl : l < s.heap.objs.size := Heap.lt_size eo
        refine call_enumerate_list ho.isList fun h' he hit hz hk => ?_
        refine wpAny_pyIter_enum he ⟨[], enumAV ys, s.heap.objs.size + 1, [s.heap.objs.size + 1, s.heap.objs.size], [s.heap.objs.size + 1, s.heap.objs.size, l],
          (fun i h => (∃ old, IsEnum h (s.heap.objs.size + 1) s.heap.objs.size ((i : Nat) : Int) old) ∧ h.IsListIter s.heap.objs.size l i ∧ h.IsList l items), rfl, R'.keeps (s' := { s with heap := h' }) hk, ?_, q2⟩
        have hlen : (enumAV ys).length = items.size := by rw [hx.size]; simp [enumAV]
        have ne1 : l ≠ s.heap.objs.size := Nat.ne_of_lt hl
        have ne2 : l ≠ s.heap.objs.size + 1 := Nat.ne_of_lt (Nat.lt_succ_of_lt hl)
        have ne3 : s.heap.objs.size + 1 ≠ s.heap.objs.size := Nat.succ_ne_self _
        refine ⟨⟨⟨_, he⟩, hit, ho.isList.at fun o e => hk _ _ e⟩, hk, R'.base, R'.alive, fun b hb => by
          simp at hb
          rcases hb with rfl | rfl
          · exact Nat.le_succ _
          · exact Nat.le_refl _, fun i g ⟨⟨old, h1⟩, ⟨o2, h2, h3, h4⟩, _⟩ b hb => ?_, fun b hb => ?_, fun i g g' ⟨⟨old, h1⟩, h2, h3⟩ hf => ?_, fun A i s2 Q' hA2 hi ⟨⟨old, h1⟩, h2, h3⟩ hQ => ?_, fun A s2 Q' hA2 ⟨⟨old, h1⟩, h2, h3⟩ hQ => ?_, fun A s2 Q' hA2 ⟨⟨old, h1⟩, h2, h3⟩ hQ => wpAny_pyIter_enum h1 hQ⟩
        · simp at hb
          rcases hb with rfl | rfl
          · exact ⟨_, h1, by unfold isIt; dsimp only; decide⟩
          · exact ⟨o2, h2, by unfold isIt; rw [h3, h4]; dsimp only; decide⟩
        · simp at hb
          rcases hb with rfl | rfl | rfl
          · exact .inl (.inl (by simp))
          · exact .inl (.inl (by simp))
          · exact .inl (.inr ⟨hn.1, hn.2, o, eo⟩)
        · exact ⟨⟨old, hf _ (by simp) _ h1⟩, h2.at fun o e => hf _ (by simp) _ e, h3.at fun o e => hf _ (by simp) _ e⟩
        · have hi2 : i < items.size := by exact as19 (by assumption) (by assumption)
          have hitem : items[i]? = some items[i] := Array.getElem?_eq_getElem hi2
          refine wpAny_pyNext_enum_item h1 h2 h3 hitem ne3 fun h4 heo hit4 htup hz4 hk4 => ?_
          dsimp only
          refine wpAny_letOwnedTupleGo_enum heo fun h5 he5 hs5 => ?_
          have hne : s2.heap.objs.size ≠ s.heap.objs.size + 1 := Nat.ne_of_gt (Heap.lt_size h1)
          have k5 : ∀ b o, b ∉ [s.heap.objs.size + 1, s.heap.objs.size] → s2.heap.get? b = some o → h5.get? b = some o := fun b o hb e => by
            simp at hb
            exact hs5.extBut b o hb.1 (hk4 b o hb.1 hb.2 e)
          refine hQ _ h5 _ (fun ρ' φ' X hal => ?_) ⟨⟨_, by simpa using he5⟩, ?_, ?_⟩ k5
          · obtain ⟨x, e1, e2⟩ := (hx.ext X).get' (i := i) (v := items[i]) (by simp [hi2])
            refine ⟨.tup [.int i, x], ?_, .tup ⟨_, (hs5.2 _ hne).trans htup, rfl, _, rfl⟩ ⟨fun q => ?_, fun q => ?_⟩ (.cons (.int _ _) (.cons e2 .nil))⟩
            · simp [enumAV, e1]
            · obtain ⟨o', e'⟩ := hal _ (.inl q); exact absurd (Heap.lt_size e') (Nat.lt_irrefl _)
            · obtain ⟨o', e'⟩ := hal _ (.inr q); exact absurd (Heap.lt_size e') (Nat.lt_irrefl _)
          · exact hit4.at fun o e => hs5.extBut _ o (Ne.symm ne3) e
          · exact (h3.at fun o e => hk4 _ o ne2 ne1 e).at fun o e => hs5.extBut _ o ne2 e
        · refine wpAny_pyNext_enum_end hA2 h1 h2 h3 (by simp; exact as8 (by assumption)) fun h4 hk4 => ?_
          exact hQ h4 _ fun b o hb e => hk4 b o (by simp at hb; exact hb.2) e
end
end
section
structure ExtD (P : Str → Prop) (D : Addr) (env : Env) (F : List Nat) (ρ φ : List Addr) (h : Heap) (ρ' φ' : List Addr) (h' : Heap) : Prop where
  pre : ρ <+: ρ'
  keep : ∀ a o, h.get? a = some o → a ∉ ρ → a ≠ env.locals → a ≠ D → (∀ x, P x → env.cells.lookup x = some a → a ∉ φ) → h'.get? a = some o ∧ a ∉ ρ' ∧ (a ∉ φ → a ∉ φ')
  sub : ∀ a ∈ φ, a ∈ φ'
  held : ∀ (i : Nat) a, i ∈ F → ρ[i]? = some a → h'.get? a = h.get? a
theorem ExtP.d {P : Str → Prop} {D : Addr} {env : Env} {F : List Nat} {ρ φ ρ' φ' : List Addr} {h h' : Heap} (x : ExtP P env F ρ φ h ρ' φ' h') : ExtD P D env F ρ φ h ρ' φ' h' := ⟨x.pre, fun a o e n n1 _ n2 => x.keep a o e n n1 n2, x.sub, x.held⟩
theorem ExtD.refl (P : Str → Prop) (D : Addr) (env : Env) (F : List Nat) (ρ φ : List Addr) (h : Heap) : ExtD P D env F ρ φ h ρ φ h := (ExtP.refl P env F ρ φ h).d
theorem ExtD.trans {P : Str → Prop} {D : Addr} {env : Env} {F : List Nat} {ρ φ ρ' φ' ρ'' φ'' : List Addr} {h h' h'' : Heap} (x : ExtD P D env F ρ φ h ρ' φ' h') (y : ExtD P D env F ρ' φ' h' ρ'' φ'' h'') : ExtD P D env F ρ φ h ρ'' φ'' h'' :=
  ⟨x.pre.trans y.pre, fun a o e n n1 nD n2 => (x.keep a o e n n1 nD n2).elim fun e' zz1 => zz1.elim fun n' m' => (y.keep a o e' n' n1 nD fun x p q => m' (n2 x p q)).elim fun e'' zz1 => zz1.elim fun n'' m'' => ⟨e'', n'', fun q => m'' (m' q)⟩, fun a q => y.sub a (x.sub a q),
    fun i a hi e => (y.held i a hi (getρ_of x.pre e)).trans (x.held i a hi e)⟩
theorem ExtD.less {P : Str → Prop} {D : Addr} {env : Env} {F F' : List Nat} {ρ ρ' φ φ' : List Addr} {h h' : Heap} (x : ExtD P D env F' ρ φ h ρ' φ' h') (s : ∀ i ∈ F, i ∈ F') : ExtD P D env F ρ φ h ρ' φ' h' := ⟨x.pre, x.keep, x.sub, fun i a hi e => x.held i a (s i hi) e⟩
section
variable {B : Base} {ρ φ : List Addr} {H : List AO} {s : Shared} {F : List Nat} {h' : Heap}
theorem Rep.own (R : Rep B ρ φ H s) {L : Addr} {tk : Nat} (hφ : L ∈ φ) (hρ : L ∉ ρ) (hl : ∃ ob, h'.get? L = some ob) (hs : Heap.SameBut L s.heap h') : ExtW ρ φ s.heap ρ φ h' ∧ Rep B ρ φ H { s with heap := h', toks := tk } := by
  have W : ExtW ρ φ s.heap ρ φ h' := ⟨List.prefix_rfl, fun a o e n _ => ⟨(hs.2 a fun z => n.2 (z ▸ hφ)).trans e, n⟩⟩
  refine ⟨W, R.step (s' := { s with heap := h', toks := tk }) W (fun a o e => (hs.2 a fun z => (R.baseNotin e).2 (z ▸ hφ)).trans (R.base a o e)) R.len R.nodup
      (fun i o a e1 e2 => .inl ⟨e1, e2, hs.2 a fun z => hρ (z ▸ List.mem_of_getElem? e2)⟩) (fun _ q => .inl q) R.disj (fun a q => ?_)⟩
  by_cases z : a = L
  · subst z; exact hl
  · refine (R.alive a q).elim fun o e => ?_; exact ⟨o, (hs.2 a z).trans e⟩
theorem RVars.but {vars : Vars} {env : Env} (V : RVars B ρ φ env vars s.heap) (W : ExtW ρ φ s.heap ρ φ h') {D : Addr} {ys : Array Value} (hD : s.heap.PlainList D ys) (hs : Heap.SameBut D s.heap h') : RVars B ρ φ env vars h' := by
  refine hD.elim fun n eD => ?_; (try clear hD)
  refine V.extW W (fun a o e q => ?_) fun _ q => q
  rcases q with q | ⟨x, q⟩
  · subst q
    refine V.loc.elim fun m zz1 => zz1.elim fun zz2 _ => zz2.elim fun ol zz3 => zz3.elim fun es zz4 => zz4.elim fun ep zz5 => zz5.elim fun e1 zz6 => zz6.elim fun e2 _ => ?_; clear zz6 zz5 zz4 zz3 zz2 zz1
    have : env.locals ≠ D := fun z => by rw [z, eD] at e1; cases e1; cases e2
    exact ⟨(hs.2 _ this).trans e, V.locn⟩
  · refine (V.iscell x a q).elim fun v zz1 => zz1.elim fun oc zz2 => zz2.elim fun e1 e2 => ?_; clear zz2 zz1
    have : a ≠ D := fun z => by rw [z, eD] at e1; cases e1; cases e2
    exact ⟨(hs.2 _ this).trans e, V.celln x a q⟩
end
noncomputable def TST (C : Cx) (sc : Scope) (vars : Vars) (H : List AO) (ifs : List Expr) (Q : Bool → List AO → Prop) : Prop := match ifs with
  | [] => Q true H
  | [c] => ET C sc vars H c Q
  | _ => False
noncomputable def CG (sc : Scope) (elt : Expr) : List Comprehension → Cx → Vars → List AO → List AV → (List AV → Vars → List AO → Prop) → Prop
  | [], C, vars, H, ys, Q => ys.length ≤ 16000000 ∧ EV C sc vars H elt fun v H1 => Q (ys ++ [v]) vars H1
  | g :: gs, C, vars, H, ys, Q => g.is_async = 0 ∧ (∀ env x, foldedSetIterable g.iter env x = pure x) ∧ EVI C sc vars H g.target g.iter fun fs xs H1 => ∃ Inv : Nat → List AV → Vars → List AO → Prop, Inv 0 ys vars H1 ∧
    (∀ k x zs vars H, xs[k]? = some x → Inv k zs vars H → AS (C.hold fs) sc vars H g.target x fun v2 H2 => TST (C.hold fs) sc v2 H2 g.ifs fun b H3 =>
      if b = true then CG sc elt gs (C.hold fs) v2 H3 zs fun zs' v4 H4 => Inv (k + 1) zs' v4 H4 else Inv (k + 1) zs v2 H3) ∧
    ∀ zs vars H, Inv xs.length zs vars H → Q zs vars H
inductive PostD (P : Str → Prop) (C : Cx) (env : Env) (D : Addr) (ρ φ : List Addr) (h : Heap) (Q : List AV → Vars → List AO → Prop) (s' : Shared) : Prop
  | mk (ρ' φ' : List Addr) (H' : List AO) (vars' : Vars) (ys' : List AV) (X : ExtD P D env C.F ρ φ h ρ' φ' s'.heap) (R : Rep C.B ρ' φ' H' s') (V : RVars C.B ρ' φ' env vars' s'.heap) (n : D ∉ ρ' ∧ D ∈ φ') (l : ∃ vs, s'.heap.PlainList D vs ∧ RVs C.B ρ' φ' s'.heap ys' vs.toList) (q : Q ys' vars' H')
theorem PostD.elim {P : Str → Prop} {C : Cx} {env : Env} {D : Addr} {ρ φ : List Addr} {h : Heap} {Q : List AV → Vars → List AO → Prop} {s' : Shared} {goal : Prop} (it0 : PostD P C env D ρ φ h Q s') (k : ∀ (ρ' φ' : List Addr) (H' : List AO) (vars' : Vars) (ys' : List AV) (X : ExtD P D env C.F ρ φ h ρ' φ' s'.heap) (R : Rep C.B ρ' φ' H' s') (V : RVars C.B ρ' φ' env vars' s'.heap) (n : D ∉ ρ' ∧ D ∈ φ') (l : ∃ vs, s'.heap.PlainList D vs ∧ RVs C.B ρ' φ' s'.heap ys' vs.toList) (q : Q ys' vars' H'), goal) : goal := PostD.rec (motive := fun _ => goal) k it0
noncomputable def inner (elt : Expr) (gens : List Comprehension) (scope : Scope) (pos : Pos) (depth : Nat) (acc : Value) (env : Env) : Sem Unit :=
  match gens[depth]? with
  | some g' => do
    let x ← eval g'.iter env
    standAt g'.iter.pos
    let x ← if g'.is_async != 0 then foldedIterable g'.iter x else foldedSetIterable g'.iter env x
    let _ ← runOwn (.compStart (.ListComp elt gens scope pos) depth (← holding [x] (if g'.is_async != 0 then asyncIter x else pyIter x)) acc env) env
  | none => do let _ ← call (.builtin "list.append") [acc, ← eval elt env]
theorem compTurn_eq {elt : Expr} {gens : List Comprehension} {scope : Scope} {pos : Pos} {depth : Nat} {it acc : Value} {env : Env} {target iter : Expr} {ifs : List Expr} (hg : gens[depth]? = some ⟨target, iter, ifs, 0⟩) :
    compTurn (.ListComp elt gens scope pos) depth it acc env = (do
      standAt iter.pos
      match ← pyNext it with
      | none => pure (.done .next)
      | some v =>
        letOwnedTupleGo target it v
        assign target env v
        let mut ok := true
        for c in ifs do
          if ok then ok ← isTrue c env (eval c env)
        if ok then
          inner elt gens scope pos (depth + 1) acc env
        again (.compLoop (.ListComp elt gens scope pos) depth it acc env)) := by
  unfold compTurn
  simp only [hg]
  unfold inner
  cases h1 : gens[depth + 1]? with
  | none => rfl
  | some g' =>
    simp only [h1]
    cases h2 : (g'.is_async != 0) with
    | false => simp only [Bool.false_eq_true, if_false, bind_assoc]; rfl
    | true => simp only [if_true, bind_assoc]; rfl
theorem D_cell {B : Base} {ρ φ : List Addr} {vars : Vars} {env : Env} {h : Heap} (V : RVars B ρ φ env vars h) {D : Addr} {ys : Array Value} (hD : h.PlainList D ys) : D ≠ env.locals ∧ ∀ x, env.cells.lookup x ≠ some D := by
  refine hD.elim fun n eD => ?_; (try clear hD)
  refine ⟨fun z => ?_, fun x q => ?_⟩
  · refine V.loc.elim fun m zz1 => zz1.elim fun zz2 _ => zz2.elim fun ol zz3 => zz3.elim fun es zz4 => zz4.elim fun ep zz5 => zz5.elim fun e1 zz6 => zz6.elim fun e2 _ => ?_; clear zz6 zz5 zz4 zz3 zz2 zz1
    rw [← z, eD] at e1; cases e1; cases e2
  · refine (V.iscell x D q).elim fun v zz1 => zz1.elim fun oc zz2 => zz2.elim fun e1 e2 => ?_; clear zz2 zz1
    rw [eD] at e1; cases e1; cases e2
noncomputable def Inner (P : Str → Prop) (sc : Scope) (elt : Expr) (gens : List Comprehension) (scope : Scope) (pos : Pos) (depth : Nat) (gs : List Comprehension) : Prop :=
  ∀ (C : Cx) (vars : Vars) (H : List AO) (ys : List AV) (Q : List AV → Vars → List AO → Prop), CG sc elt gs C vars H ys Q → ∀ (A : Around) (env : Env) (ρ φ : List Addr) (s : Shared) (D : Addr) (vs : Array Value), AOk C.d A → EnvOk sc env → Rep C.B ρ φ H s → RVars C.B ρ φ env vars s.heap →
    (∀ g ∈ gs, TOwn φ env g.target) → (∀ g ∈ gs, ∀ x, Tgt x g.target → P x) → D ∈ φ → D ∉ ρ → s.heap.PlainList D vs → RVs C.B ρ φ s.heap ys vs.toList →
    wpAny (model C.B.prog C.B.w) A (inner elt gens scope pos depth (.ref D) env) (fun _ s' => PostD P C env D ρ φ s.heap Q s') noE s
theorem tst_ok {C : Cx} {sc : Scope} {vars : Vars} {H : List AO} {ifs : List Expr} {Q : Bool → List AO → Prop} (h : TST C sc vars H ifs Q) {A : Around} {env : Env} {ρ φ : List Addr} {s : Shared} (hA : AOk C.d A) (hE : EnvOk sc env) (R : Rep C.B ρ φ H s) (V : RVars C.B ρ φ env vars s.heap) :
    wpAny (model C.B.prog C.B.w) A (forIn ifs true fun c r => if r = true then do let ok ← isTrue c env (eval c env); pure (ForInStep.yield ok) else pure (ForInStep.yield r)) (PostB C ρ φ s Q) noE s := by
  unfold TST at h
  split at h
  · exact wpAny_tests_nil ⟨ρ, φ, H, Ext.refl _ _ _ _, R, h⟩
  · exact wpAny_tests_one (h A env ρ φ s hA hE R V)
  · exact h.elim
section
variable {P : Str → Prop} {D : Addr} {env : Env} {F : List Nat} {ρ0 φ0 ρk φk : List Addr} {g1 h h2 : Heap}
theorem ExtD.away (X : ExtD P D env F ρ0 φ0 g1 ρk φk h) (hloc : env.locals ∈ φ0 ∨ g1.get? env.locals = none) (hDb : D ∈ φ0 ∨ g1.get? D = none) {a : Addr} {o : Obj} (e : g1.get? a = some o) (n1 : a ∉ ρ0) (n2 : a ∉ φ0) : h.get? a = some o ∧ a ∉ ρk ∧ a ∉ φk :=
  have away : ∀ {b}, b ∈ φ0 ∨ g1.get? b = none → a ≠ b := fun q z => q.elim (fun q => n2 (z ▸ q)) fun q => nomatch (z ▸ e).symm.trans q
  (X.keep a o e n1 (away hloc) (away hDb) fun _ _ _ => n2).elim fun q1 zz1 => zz1.elim fun q2 q3 => ⟨q1, q2, q3 n2⟩
theorem ExtD.adv {wr : List Addr} (X : ExtD P D env F ρ0 φ0 g1 ρk φk h) (al : ∀ a ∈ ρk, ∃ o, h.get? a = some o) (new : ∀ b ∈ wr, g1.objs.size ≤ b) (hw : ∀ b ∈ wr, b ∉ ρk ∧ b ∉ φk) (hk : ∀ b o, b ∉ wr → h.get? b = some o → h2.get? b = some o) :
    ExtD P D env F ρ0 φ0 g1 ρk φk h2 :=
  ⟨X.pre, fun a o e n n1 nD n2 => (X.keep a o e n n1 nD n2).elim fun q1 zz1 => zz1.elim fun q2 q3 => ⟨hk a o (fun q => absurd (Heap.lt_size e) (Nat.not_lt.mpr (new a q))) q1, q2, q3⟩, X.sub, fun i a hi e => by
    have m := List.mem_of_getElem? (getρ_of X.pre e)
    refine (al a m).elim fun o q => ?_
    rw [← X.held i a hi e, q]; exact hk a o (fun z => (hw a z).1 m) q⟩
end
inductive LC (P : Str → Prop) (C : Cx) (D : Addr) (env : Env) (fs : List Nat) (ρ0 φ0 φ : List Addr) (g1 : Heap) (wr : List Addr) (N : Nat) (St : Nat → Heap → Prop) (Inv : Nat → List AV → Vars → List AO → Prop) (n : Nat) (s' : Shared) : Prop
  | mk (k : Nat) (ρk φk : List Addr) (Hk : List AO) (vk : Vars) (zs : List AV) (vz : Array Value) (en : n = N + 1 - k) (hk : k ≤ N) (X : ExtD P D env (fs ++ C.F) ρ0 φ0 g1 ρk φk s'.heap) (sub : ∀ b ∈ φ, b ∈ φk) (R : Rep C.B ρk φk Hk s') (V : RVars C.B ρk φk env vk s'.heap)
    (st : St k s'.heap) (w : ∀ b ∈ wr, b ∉ ρk ∧ b ∉ φk) (d : D ∉ ρk) (p : s'.heap.PlainList D vz) (z : RVs C.B ρk φk s'.heap zs vz.toList) (i : Inv k zs vk Hk)
theorem LC.elim {P : Str → Prop} {C : Cx} {D : Addr} {env : Env} {fs : List Nat} {ρ0 φ0 φ : List Addr} {g1 : Heap} {wr : List Addr} {N : Nat} {St : Nat → Heap → Prop} {Inv : Nat → List AV → Vars → List AO → Prop} {n : Nat} {s' : Shared} {goal : Prop} (it0 : LC P C D env fs ρ0 φ0 φ g1 wr N St Inv n s') (k : ∀ (k : Nat) (ρk φk : List Addr) (Hk : List AO) (vk : Vars) (zs : List AV) (vz : Array Value) (en : n = N + 1 - k) (hk : k ≤ N) (X : ExtD P D env (fs ++ C.F) ρ0 φ0 g1 ρk φk s'.heap) (sub : ∀ b ∈ φ, b ∈ φk) (R : Rep C.B ρk φk Hk s') (V : RVars C.B ρk φk env vk s'.heap) (st : St k s'.heap) (w : ∀ b ∈ wr, b ∉ ρk ∧ b ∉ φk) (d : D ∉ ρk) (p : s'.heap.PlainList D vz) (z : RVs C.B ρk φk s'.heap zs vz.toList) (i : Inv k zs vk Hk), goal) : goal := LC.rec (motive := fun _ => goal) k it0
theorem loop_ok {C : Cx} {sc : Scope} {elt target iter : Expr} {ifs : List Expr} {gens gs : List Comprehension} {scope : Scope} {pos : Pos} {depth : Nat} (hg : gens[depth]? = some ⟨target, iter, ifs, 0⟩) {P : Str → Prop} (IN : Inner P sc elt gens scope pos (depth + 1) gs)
    {ρ0 φ0 : List Addr} {g1 h' : Heap} {fs : List Nat} {xs : List AV} {I : Addr} {wr fp : List Addr} {St : Nat → Heap → Prop} (W : Wk C target ρ0 φ0 g1 fs xs I h' wr fp St) {vars : Vars} {H : List AO} {ys : List AV} {Q : List AV → Vars → List AO → Prop}
    (Inv : Nat → List AV → Vars → List AO → Prop) (i0 : Inv 0 ys vars H)
    (istep : ∀ k x zs vars H, xs[k]? = some x → Inv k zs vars H → AS (C.hold fs) sc vars H target x fun v2 H2 => TST (C.hold fs) sc v2 H2 ifs fun b H3 =>
      if b = true then CG sc elt gs (C.hold fs) v2 H3 zs fun zs' v4 H4 => Inv (k + 1) zs' v4 H4 else Inv (k + 1) zs v2 H3)
    (iend : ∀ zs vars H, Inv xs.length zs vars H → Q zs vars H)
    {A : Around} {env : Env} {ρ φ : List Addr} {s : Shared} {D : Addr} {vs : Array Value} (hA : AOk C.d A) (hE : EnvOk sc env) (R : Rep C.B ρ φ H s) (V : RVars C.B ρ φ env vars s.heap) (TO : TOwn φ env target) (TOs : ∀ g ∈ gs, TOwn φ env g.target) (hP : ∀ x, Tgt x target → P x) (hPs : ∀ g ∈ gs, ∀ x, Tgt x g.target → P x) (hDφ : D ∈ φ) (hDρ : D ∉ ρ) (hD : s.heap.PlainList D vs)
    (hys : RVs C.B ρ φ s.heap ys vs.toList) (hst : St 0 s.heap) (Xb : ExtD P D env (fs ++ C.F) ρ0 φ0 g1 ρ φ s.heap) (hloc : env.locals ∈ φ0 ∨ g1.get? env.locals = none) (hDb : D ∈ φ0 ∨ g1.get? D = none) (hwr : ∀ b ∈ wr, b ∉ ρ ∧ b ∉ φ) :
    codeAny (model C.B.prog C.B.w) A (.compLoop (.ListComp elt gens scope pos) depth (.ref I) (.ref D) env) (fun r s' => match r with | .ok f => PostD P C env D ρ0 φ0 g1 Q s' | .error e => False) s := by
  refine codeAny_loop rfl (LC P C D env fs ρ0 φ0 φ g1 wr xs.length St Inv) (fun n s' l => ?_) (xs.length + 1) ⟨0, ρ, φ, H, vars, ys, vs, rfl, Nat.zero_le _, Xb, fun _ q => q, R, V, hst, hwr, hDρ, hD, hys, i0⟩
  refine l.elim fun k ρk φk Hk vk zs vz zz1 hkl X Xsub Rk Vk hstk hwrk hDk hDl hzs inv => ?_; (try clear l); (first | subst zz1 | cases zz1)
  show wpAny _ A ((compTurn (.ListComp elt gens scope pos) depth (.ref I) (.ref D) env).onRaise (fun x => do noteFrame x env; theTreesLotGoes x)) _ _ s'
  refine wpAny_noted ?_
  rw [compTurn_eq hg]
  have hDφk : D ∈ φk := Xsub _ hDφ
  have hDw : D ∉ wr := fun q => (hwrk D q).2 hDφk
  have lock : env.locals ∈ φk := Vk.locφ
  have adv : ∀ {h2 : Heap}, (∀ b o, b ∉ wr → s'.heap.get? b = some o → h2.get? b = some o) → ExtD P D env (fs ++ C.F) ρ0 φ0 g1 ρk φk h2 := fun hk => X.adv (fun a q => Rk.alive a (.inl q)) W.new hwrk hk
  refine wpAny_bind (wpAny_standAt (wpAny_bind ?_))
  rcases Nat.lt_or_ge k xs.length with hlt | hge
  · refine wpAny_mono (W.item A k s' (fun v s2 => ∃ h2 tk, s2 = { s' with heap := h2, toks := tk } ∧ St (k + 1) h2 ∧ (∀ b o, b ∉ wr → s'.heap.get? b = some o → h2.get? b = some o) ∧
        (∀ ρ' φ', ExtW ρ0 φ0 g1 ρ' φ' h2 → (∀ a, a ∈ ρ' ∨ a ∈ φ' → ∃ o, s'.heap.get? a = some o) → ∃ x, xs[k]? = some x ∧ RV C.B ρ' φ' h2 x v)) hA.handled hlt hstk fun v h2 tk hv hst2 hk => ⟨h2, tk, rfl, hst2, hk, hv⟩) (fun r s1 hr => ?_) fun _ _ x => x.elim
    cases r with
    | none => exact hr.elim
    | some v =>
      refine wpAny_bind (wpAny_mono hr (fun _ s2 p => ?_) fun _ _ x => x.elim)
      refine p.elim fun h2 zz1 => zz1.elim fun tk zz2 => zz2.elim fun zz3 zz4 => zz4.elim fun hst2 zz5 => zz5.elim fun hk hv => ?_; clear zz5 zz4 zz2 zz1; (try clear p); (first | subst zz3 | cases zz3)
      refine (W.step Rk hstk hwrk (tk := tk) hk).elim fun W2 zz1 => zz1.elim fun R2 hk2 => ?_; clear zz1
      have V2 := W.vars hstk hk W2 Vk
      have hD2 : h2.PlainList D vz := hDl.elim fun m e => ⟨m, hk D _ hDw e⟩
      have Xn := adv hk
      refine (hv ρk φk ⟨X.pre, fun a o e n _ => Xn.away hloc hDb e n.1 n.2⟩ Rk.alive).elim fun x zz1 => zz1.elim fun hx rv => ?_; clear zz1
      refine wpAny_bind (wpAny_mono (istep k x zs vk Hk hx inv A env ρk φk _ v hA hE R2 V2 (fun x a g e => Xsub a (TO x a g e)) rv) (fun _ s3 p => ?_) fun _ _ x => x.elim)
      refine p.elim fun ρ3 φ3 H3 v3 X3 R3 V3 q3 => ?_; (try clear p)
      replace X3 : ExtP P env (fs ++ C.F) ρk φk h2 ρ3 φ3 s3.heap := X3.mono hP
      have c := D_cell V2 hD2
      have hD3 : s3.heap.PlainList D vz ∧ D ∉ ρ3 := hD2.elim fun m e => (X3.keep D _ e hDk c.1 (fun x _ z => absurd z (c.2 x))).elim fun q1 zz1 => zz1.elim fun q2 _ => ⟨⟨m, q1⟩, q2⟩
      refine wpAny_bind (wpAny_mono (tst_ok q3 hA hE R3 V3) (fun b s4 p => ?_) fun _ _ x => x.elim)
      refine p.elim fun ρ4 φ4 H4 X4 R4 q4 => ?_; (try clear p)
      replace X4 : Ext (fs ++ C.F) ρ3 φ3 s3.heap ρ4 φ4 s4.heap := X4
      have hD4 : s4.heap.PlainList D vz ∧ D ∉ ρ4 := hD3.elim fun zz1 n3 => zz1.elim fun m e => (X4.keep D _ e n3).elim fun q1 zz1 => zz1.elim fun q2 _ => ⟨⟨m, q1⟩, q2⟩
      have W3 : ExtW ρk φk h2 ρ3 φ3 s3.heap := ⟨X3.pre, fun a o e n _ => (X3.keep a o e n.1 (fun z => n.2 (z ▸ lock)) (fun _ _ _ => n.2)).elim fun q1 zz1 => zz1.elim fun q2 q3 => ⟨q1, q2, q3 n.2⟩⟩
      have z4 : RVs C.B ρ4 φ4 s4.heap zs vz.toList := ((hzs.ext W2).ext W3).ext X4.w
      have X24 : ExtD P D env (fs ++ C.F) ρk φk h2 ρ4 φ4 s4.heap := X3.d.trans (X4.p (P := P)).d
      have fin : ∀ {ρ5 φ5 H5 v5 zs5 vz5} {s5 : Shared}, ExtD P D env (fs ++ C.F) ρk φk h2 ρ5 φ5 s5.heap → Rep C.B ρ5 φ5 H5 s5 → RVars C.B ρ5 φ5 env v5 s5.heap → D ∉ ρ5 → s5.heap.PlainList D vz5 → RVs C.B ρ5 φ5 s5.heap zs5 vz5.toList → Inv (k + 1) zs5 v5 H5 →
          ∃ m, m < xs.length + 1 - k ∧ LC P C D env fs ρ0 φ0 φ g1 wr xs.length St Inv m s5 := by
        intro ρ5 φ5 H5 v5 zs5 vz5 s5 X5 R5 V5 n5 p5 r5 inv5
        refine (W.kept hst2 hwrk (fun e n1 n2 => (Xn.away hloc hDb e n1 n2).2) (fun b o e n1 n2 => X5.away (.inl lock) (.inl hDφk) e n1 n2) fun i a hi e => X5.held i a (List.mem_append_left _ hi) (getρ_of X.pre e)).elim fun st5 w5 => ?_
        exact ⟨_, Nat.sub_succ_lt_self _ _ (Nat.lt_succ_of_lt hlt), k + 1, ρ5, φ5, H5, v5, zs5, vz5, rfl, hlt, Xn.trans X5, fun b q => X5.sub b (Xsub b q), R5, V5, st5, w5, n5, p5, r5, inv5⟩
      cases b with
      | false =>
        rw [if_neg Bool.false_ne_true] at q4 ⊢
        exact wpAny_pure ⟨rfl, fin X24 R4 (V3.ext X4) hD4.2 hD4.1 z4 q4⟩
      | true =>
        rw [if_pos rfl] at q4 ⊢
        refine wpAny_bind (wpAny_mono (IN _ _ _ _ _ q4 _ _ _ _ _ _ _ hA hE R4 (V3.ext X4) (fun g hg x a t e => X4.sub a (X3.sub a (Xsub a (TOs g hg x a t e)))) hPs (X4.sub D (X3.sub D hDφk)) hD4.2 hD4.1 z4) (fun _ s5 p => ?_) fun _ _ x => x.elim)
        refine p.elim fun ρ5 φ5 H5 v5 zs5 X5 R5 V5 n5 zz1 q5 => zz1.elim fun vz5 zz2 => zz2.elim fun p5 r5 => ?_; clear zz2 zz1; (try clear p)
        exact wpAny_pure ⟨rfl, fin (X24.trans X5) R5 V5 n5.1 p5 r5 q5⟩
  · have hkk : k = xs.length := Nat.le_antisymm hkl hge
    subst hkk
    refine wpAny_mono (W.done A s' _ hA.handled hstk fun h2 tk hk => ?_) (fun _ _ h => h) fun _ _ x => x.elim
    refine (W.step Rk hstk hwrk (tk := tk) hk).elim fun W2 zz1 => zz1.elim fun R2 hk2 => ?_; clear zz1
    have hD2 : h2.PlainList D vz := hDl.elim fun m e => ⟨m, hk D _ hDw e⟩
    exact wpAny_pure ⟨ρk, φk, Hk, vk, zs, (adv hk).less fun i hi => List.mem_append_right _ hi, R2, W.vars hstk hk W2 Vk, ⟨hDk, hDφk⟩, ⟨vz, hD2, hzs.ext W2⟩, iend zs vk Hk inv⟩
end
section
theorem codeAny_compStart {prog : Program} {w : World} {A : Around} {R : Result → Shared → Prop} {s : Shared} {elt : Expr} {gens : List Comprehension} {scope : Scope} {pos : Pos} {depth : Nat} {it acc : Value} {env : Env} {target iter : Expr} {ifs : List Expr} (hg : gens[depth]? = some ⟨target, iter, ifs, 0⟩)
    (h0 : codeAny (model prog w) A (.compLoop (.ListComp elt gens scope pos) depth it acc env) R s)
    (h : wpAny (model prog w) A (pyIter it) (fun it' s' => codeAny (model prog w) A (.compLoop (.ListComp elt gens scope pos) depth it' acc env) R s') (notedBy (model prog w) A env fun x s' => R (.error x) s') s) :
    codeAny (model prog w) A (.compStart (.ListComp elt gens scope pos) depth it acc env) R s := by
  refine codeAny_of_tree ?_
  show wpAny _ _ ((compStart (.ListComp elt gens scope pos) depth it acc env).onRaise (fun x => do noteFrame x env; standAt theWindowsPlace)) _ _ s
  refine wpAny_notedAt ?_
  unfold compStart
  have hc : (clausesOf (.ListComp elt gens scope pos))[depth]? = some ⟨target, iter, ifs, 0⟩ := hg
  simp only [hc]
  show wpAny _ _ (ask >>= _) _ _ s
  refine wpAny_bind (wpAny_askSetting (wpAny_ite ?_))
  split
  · first
      | exact wpAny_bind (wpAny_pure (wpAny_pure (And.intro rfl h0)))
      | exact wpAny_pure (And.intro rfl h0)
  · refine wpAny_bind (wpAny_rule (wpAny_bind (wpAny_standAt ?_)))
    exact wpAny_bind (wpAny_mono h (fun it' s' h' => wpAny_pure (And.intro rfl h')) fun _ _ x => x)
theorem loop_of_iter {P : Str → Prop} {C : Cx} {sc : Scope} {elt : Expr} {g : Comprehension} {gens gs : List Comprehension} {scope : Scope} {pos : Pos} {depth : Nat} (hg : gens[depth]? = some g) (ha : g.is_async = 0) (IN : Inner P sc elt gens scope pos (depth + 1) gs)
    {ρ0 φ0 : List Addr} {g1 : Heap} {fs : List Nat} {xs : List AV} {I : Addr} {wr fp : List Addr} {St : Nat → Heap → Prop} {A : Around} {env : Env} {ρ φ : List Addr} {s : Shared} {h' : Heap} (W : Wk C g.target ρ0 φ0 g1 fs xs I h' wr fp St) {vars : Vars} {H : List AO} {ys : List AV} {Q : List AV → Vars → List AO → Prop}
    (Inv : Nat → List AV → Vars → List AO → Prop) (i0 : Inv 0 ys vars H)
    (istep : ∀ k x zs vars H, xs[k]? = some x → Inv k zs vars H → AS (C.hold fs) sc vars H g.target x fun v2 H2 => TST (C.hold fs) sc v2 H2 g.ifs fun b H3 =>
      if b = true then CG sc elt gs (C.hold fs) v2 H3 zs fun zs' v4 H4 => Inv (k + 1) zs' v4 H4 else Inv (k + 1) zs v2 H3)
    (iend : ∀ zs vars H, Inv xs.length zs vars H → Q zs vars H)
    {D : Addr} {vs : Array Value} (hA : AOk C.d A) (hE : EnvOk sc env) (R : Rep C.B ρ φ H s) (V : RVars C.B ρ φ env vars s.heap) (TO : TOwn φ env g.target) (TOs : ∀ g ∈ gs, TOwn φ env g.target) (hP : ∀ x, Tgt x g.target → P x) (hPs : ∀ g ∈ gs, ∀ x, Tgt x g.target → P x) (hDφ : D ∈ φ) (hDρ : D ∉ ρ) (hD : s.heap.PlainList D vs)
    (hys : RVs C.B ρ φ s.heap ys vs.toList) (hst : St 0 s.heap) (Xb : ExtD P D env (fs ++ C.F) ρ0 φ0 g1 ρ φ s.heap) (hloc : env.locals ∈ φ0 ∨ g1.get? env.locals = none) (hDb : D ∈ φ0 ∨ g1.get? D = none) (hwr : ∀ b ∈ wr, b ∉ ρ ∧ b ∉ φ) :
    codeAny (model C.B.prog C.B.w) A (.compStart (.ListComp elt gens scope pos) depth (.ref I) (.ref D) env) (fun r s' => match r with | .ok f => PostD P C env D ρ0 φ0 g1 Q s' | .error e => False) s := by
  obtain ⟨target, iter, ifs, a⟩ := g
  simp only at ha
  subst ha
  have L := loop_ok hg IN W Inv i0 istep iend hA hE R V TO TOs hP hPs hDφ hDρ hD hys hst Xb hloc hDb hwr
  exact codeAny_compStart hg L (wpAny_mono (W.self A s (fun it s' => it = .ref I ∧ s' = s) hA.handled hst ⟨rfl, rfl⟩) (fun it s' ⟨e1, e2⟩ => by subst e1 e2; exact L) fun _ _ x => x.elim)
theorem inner_ok {P : Str → Prop} {sc : Scope} {elt : Expr} {gens : List Comprehension} {scope : Scope} {pos : Pos} : ∀ (gs : List Comprehension) (depth : Nat), gens.drop depth = gs → Inner P sc elt gens scope pos depth gs
  | [], depth, hd => by
    intro C vars H ys Q hq A env ρ φ s D vs hA hE R V TOs hPs hDφ hDρ hD hys
    have hn : gens[depth]? = none := by
      have := congrArg List.length hd
      rw [List.length_drop] at this
      exact List.getElem?_eq_none (by simp at this; lia)
    unfold inner
    rw [hn]
    refine hq.elim fun hl h => ?_; (try clear hq)
    refine wpAny_bind (wpAny_mono (h A env ρ φ s hA hE R V) (fun x s1 zz1 => zz1.elim fun ρ1 φ1 H1 v1 X1 R1 rv q1 => ?_) fun _ _ x => x)
    have hD1 : s1.heap.PlainList D vs ∧ D ∉ ρ1 := by
      refine hD.elim fun m e => ?_; (try clear hD)
      refine (X1.keep D _ e hDρ).elim fun q1 zz1 => zz1.elim fun q2 _ => ?_; clear zz1
      exact ⟨⟨m, q1⟩, q2⟩
    have hsz : vs.size = ys.length := hys.size
    refine wpAny_bind (wpAny_list_append_plain hD1.1 (fun h' hp hsb => wpAny_pure ?_) (sz_ok (by exact ar61 (by assumption) (by assumption) (by rfl))))
    obtain ⟨W, R2⟩ := R1.own (tk := s1.toks) (X1.sub D hDφ) hD1.2 (let ⟨_, e⟩ := hp; ⟨_, e⟩) hsb
    have V1 := V.ext X1
    refine ⟨ρ1, φ1, H1, vars, ys ++ [v1], X1.p.d.trans ⟨List.prefix_rfl, fun a o e n _ nD _ => ⟨(hsb.2 a nD).trans e, n, id⟩, fun _ q => q, fun i a _ e => hsb.2 a fun z => hD1.2 (z ▸ List.mem_of_getElem? e)⟩, R2, V1.but W hD1.1 hsb, ⟨hD1.2, X1.sub D hDφ⟩,
      ⟨_, hp, ?_⟩, q1⟩
    rw [Array.toList_push]
    exact ((hys.ext X1.w).ext W).append (.one (rv.ext W))
  | g :: gs, depth, hd => by
    intro C vars H ys Q hq A env ρ φ s D vs hA hE R V TOs hPs hDφ hDρ hD hys
    have hg : gens[depth]? = some g := by
      have := congrArg (fun l => l[0]?) hd
      simpa using this
    have hd' : gens.drop (depth + 1) = gs := by
      have := congrArg (List.drop 1) hd
      rw [List.drop_drop] at this
      simpa [Nat.add_comm] using this
    have IH := inner_ok (P := P) (sc := sc) (elt := elt) (scope := scope) (pos := pos) gs (depth + 1) hd'
    obtain ⟨ha, hfold, h⟩ := hq
    unfold inner
    rw [hg]
    dsimp only
    have hb : (g.is_async != 0) = false := by rw [ha]; rfl
    simp only [hb, Bool.false_eq_true, if_false]
    refine wpAny_bind (wpAny_mono (h A env ρ φ s hA hE R V) (fun x s1 h1 => wpAny_bind (wpAny_standAt (wpAny_bind (wpAny_of_eq (hfold env x) (wpAny_bind (wpAny_holding (wpAny_mono h1 (fun it s2 h2 => ?_) fun _ _ x => x))))))) fun _ _ x => x)
    obtain ⟨ρ1, φ1, H1, g1, fs, xs, I, wr, fp, St, rfl, X1, R1, W, Inv, i0, istep, iend⟩ := h2
    have V1 := V.ext X1
    have W12 : ExtW ρ1 φ1 g1 ρ1 φ1 s2.heap := ⟨List.prefix_rfl, fun a o e n _ => ⟨W.keeps a o e, n⟩⟩
    have V2 : RVars C.B ρ1 φ1 env vars s2.heap := V1.extW W12 (fun a o e q => ⟨W.keeps a o e, by
      rcases q with q | ⟨x, q⟩
      · subst q; exact V1.locn
      · exact V1.celln x a q⟩) fun _ q => q
    have hD1 : s2.heap.PlainList D vs ∧ D ∉ ρ1 := by
      obtain ⟨m, e⟩ := hD
      obtain ⟨q1, q2, _⟩ := X1.keep D _ e hDρ
      exact ⟨⟨m, W.keeps _ _ q1⟩, q2⟩
    have hDφ1 : D ∈ φ1 := X1.sub D hDφ
    refine wpAny_bind (wpAny_runOwn (codeAny_mono (loop_of_iter (P := P) (Q := Q) hg ha IH W Inv i0 istep iend hA hE R1 V2 (fun x a t e => X1.sub a (TOs g List.mem_cons_self x a t e)) (fun g' hg' x a t e => X1.sub a (TOs g' (List.mem_cons_of_mem _ hg') x a t e))
      (hPs g List.mem_cons_self) (fun g' hg' => hPs g' (List.mem_cons_of_mem _ hg')) hDφ1 hD1.2 hD1.1 ((hys.ext X1.w).ext W12) W.st
      ⟨List.prefix_rfl, fun a o e n _ _ _ => ⟨W.keeps a o e, n, id⟩, fun _ q => q, fun i a _ e => by refine (W.alive a (.inl (List.mem_of_getElem? e))).elim fun o q => ?_; rw [q]; exact W.keeps a o q⟩ (.inl V1.locφ) (.inl hDφ1)
      (fun b hb => ⟨(fun q => by refine (W.alive b (.inl q)).elim fun o e => ?_; exact absurd (Heap.lt_size e) (Nat.not_lt.mpr (W.new b hb))), (fun q => by refine (W.alive b (.inr q)).elim fun o e => ?_; exact absurd (Heap.lt_size e) (Nat.not_lt.mpr (W.new b hb)))⟩)) fun r s' hr => ?_))
    cases r with
    | error e => exact hr.elim
    | ok f =>
      refine hr.elim fun ρ5 φ5 H5 v5 zs5 X5 R5 V5 n5 l5 q5 => ?_; (try clear hr)
      exact wpAny_pure ⟨ρ5, φ5, H5, v5, zs5, X1.p.d.trans X5, R5, V5, n5, l5, q5⟩
end
section
theorem cellsFrom_app : ∀ (names : List (Str × NameKind)) (n : Nat) (acc : List (Str × Addr)), cellsFrom n names acc = cellsFrom n names [] ++ acc
  | [], n, acc => rfl
  | (name, kind) :: r, n, acc => by
    unfold cellsFrom
    split
    · rw [cellsFrom_app r (n + 1) ((name, n) :: acc), cellsFrom_app r (n + 1) [(name, n)], List.append_assoc]; rfl
    · exact cellsFrom_app r n acc
theorem cellsFrom_kind : ∀ (names : List (Str × NameKind)) (n : Nat) {x : Str} {a : Addr}, (x, a) ∈ cellsFrom n names [] → (x, NameKind.cell) ∈ names
  | [], n, x, a, h => by cases h
  | (name, kind) :: r, n, x, a, h => by
    unfold cellsFrom at h
    split at h
    · rename_i hk
      rw [cellsFrom_app] at h
      rcases List.mem_append.mp h with h | h
      · exact List.mem_cons_of_mem _ (cellsFrom_kind r _ h)
      · rw [List.mem_singleton] at h
        cases h
        have : kind = .cell := by simpa using hk
        rw [this]; exact List.mem_cons_self
    · exact List.mem_cons_of_mem _ (cellsFrom_kind r _ h)
theorem lookup_app {α : Type} {x : Str} : ∀ {l m : List (Str × α)}, (l ++ m).lookup x = (l.lookup x).or (m.lookup x)
  | [], m => by simp
  | (k, v) :: l, m => by
    rw [List.cons_append, List.lookup_cons, List.lookup_cons]
    cases x == k with
    | true => rfl
    | false => exact lookup_app
noncomputable def isCap (scope : Scope) (x : Str) : Bool := scope.names.lookup x == some .free
noncomputable def capV (scope : Scope) (vars : Vars) : Vars := vars.filter fun p => isCap scope (Str.ofString p.1)
theorem lookup_filter {x : String} {p : String → Bool} : ∀ {l : Vars} {v : AV}, (l.filter fun q => p q.1).lookup x = some v → l.lookup x = some v ∧ p x = true
  | [], v, h => by simp at h
  | (k, u) :: l, v, h => by
    rw [List.filter_cons] at h
    cases hp : p k with
    | true =>
      rw [hp] at h
      simp only [if_true, List.lookup_cons] at h ⊢
      cases hb : x == k with
      | true => rw [hb] at h; cases h; have : x = k := by simpa using hb
                exact ⟨rfl, by rw [this]; exact hp⟩
      | false => rw [hb] at h; exact lookup_filter h
    | false =>
      rw [hp] at h
      simp only [Bool.false_eq_true, if_false] at h
      refine (lookup_filter h).elim fun h1 h2 => ?_
      rw [List.lookup_cons]
      cases hb : x == k with
      | true => have : x = k := by simpa using hb
                rw [this, hp] at h2; cases h2
      | false => exact ⟨h1, h2⟩
noncomputable def relS (scope sc : Scope) : Scope := { scope with names := scope.names.map fun (n, k) => if (k == .free && sc.names.lookup n == some .cell) then (n, .cell) else (n, k) }
theorem relabel_eq {scope sc : Scope} {env : Env} (hE : EnvOk sc env) : relabel scope env = relS scope sc := by
  unfold relabel relS
  congr 1
  apply List.map_congr_left
  intro p _
  have h1 : (env.scope.kind == ScopeKind.function) = true := by rw [hE.kind']; rfl
  simp only [h1, hE.kindOf, Bool.and_true]
theorem relS_lookup {scope sc : Scope} {x : Str} : (relS scope sc).names.lookup x = (scope.names.lookup x).map fun k => if (k == .free && sc.names.lookup x == some .cell) then .cell else k := by
  show (scope.names.map _).lookup x = _
  induction scope.names with
  | nil => rfl
  | cons p l ih =>
    obtain ⟨n, k⟩ := p
    rw [List.map_cons]
    have e : (if (k == NameKind.free && sc.names.lookup n == some .cell) = true then (n, NameKind.cell) else (n, k)) = (n, if (k == NameKind.free && sc.names.lookup n == some .cell) = true then NameKind.cell else k) := by split <;> rfl
    show List.lookup x ((if (k == NameKind.free && sc.names.lookup n == some .cell) = true then (n, NameKind.cell) else (n, k)) :: _) = _
    rw [e, List.lookup_cons, List.lookup_cons]
    cases hb : x == n with
    | true => have : x = n := by simpa using hb
              subst this; rfl
    | false => exact ih
noncomputable def compOk (sc scope : Scope) : Bool :=
  (scope.kind == .function) && (scope.names.all fun p => p.2 != .local || scope.names.lookup p.1 == some .local) && (scope.names.all fun p => p.2 != .cell || scope.names.lookup p.1 == some .cell) &&
  (scope.names.all fun p => p.2 != .free || (scope.names.lookup p.1 == some .free && (sc.names.lookup p.1 == some .cell || sc.names.lookup p.1 == some .free)))
theorem closure_ok {scope sc : Scope} {env : Env} (hE : EnvOk sc env) (hc : ∀ x, env.kindOf x = some .cell ∨ env.kindOf x = some .free → ∃ a, env.cells.lookup x = some a) (ok : compOk sc scope = true) :
    ∃ cl, closureFor scope env = pure cl ∧ (∀ x a, cl.lookup x = some a → env.cells.lookup x = some a ∧ scope.names.lookup x = some .free) ∧ ∀ x, scope.names.lookup x = some .free → ∃ a, cl.lookup x = some a := by
  have hf : ∀ p ∈ scope.names, p.2 = .free → (∃ a, env.cells.lookup p.1 = some a) ∧ scope.names.lookup p.1 = some .free := fun p hp hk => by
    unfold compOk at ok
    simp only [Bool.and_eq_true] at ok
    have := List.all_eq_true.mp ok.2 p hp
    rw [hk] at this
    simp at this
    exact ⟨hc _ (by rw [hE.kindOf]; exact this.2), this.1⟩
  have key : ∀ (l : List (Str × NameKind)) (acc : List (Str × Addr)), (∀ p ∈ l, p.2 = .free → (∃ a, env.cells.lookup p.1 = some a) ∧ scope.names.lookup p.1 = some .free) → (∀ x a, acc.lookup x = some a → env.cells.lookup x = some a ∧ scope.names.lookup x = some .free) →
      ∃ cl, (forIn l acc fun (p : Str × NameKind) (cs : List (Str × Addr)) => (if (p.2 == .free) = true then do let a ← cellOf env p.1; pure (ForInStep.yield ((p.1, a) :: cs)) else pure (ForInStep.yield cs) : Sem (ForInStep (List (Str × Addr))))) = pure cl ∧
        (∀ x a, cl.lookup x = some a → env.cells.lookup x = some a ∧ scope.names.lookup x = some .free) ∧ (∀ x, (∃ a, acc.lookup x = some a) ∨ (x, NameKind.free) ∈ l → ∃ a, cl.lookup x = some a) := by
    intro l
    induction l with
    | nil => intro acc _ ha; exact ⟨acc, rfl, ha, fun x h => h.elim id fun q => by cases q⟩
    | cons p l ih =>
      intro acc hl ha
      rw [List.forIn_cons]
      cases hk : p.2 == .free with
      | true =>
        have hk' : p.2 = .free := by simpa using hk
        refine (hl p List.mem_cons_self hk').elim fun zz1 e' => zz1.elim fun a e => ?_; clear zz1
        obtain ⟨cl, c1, c2, c3⟩ := ih ((p.1, a) :: acc) (fun q hq => hl q (List.mem_cons_of_mem _ hq)) (fun x b hb => by
          rw [List.lookup_cons] at hb
          cases hx : x == p.1 with
          | true => rw [hx] at hb; cases hb; have : x = p.1 := by simpa using hx
                    rw [this]; exact ⟨e, e'⟩
          | false => rw [hx] at hb; exact ha x b hb)
        refine ⟨cl, ?_, c2, fun x h => c3 x ?_⟩
        · simp only [if_true]
          unfold cellOf
          rw [e]
          exact c1
        · rcases h with ⟨b, hb⟩ | h
          · left
            rw [List.lookup_cons]
            cases hx : x == p.1 with
            | true => exact ⟨a, rfl⟩
            | false => exact ⟨b, hb⟩
          · rcases List.mem_cons.mp h with q | q
            · left; rw [List.lookup_cons, ← q]; simp
            · exact .inr q
      | false =>
        refine (ih acc (fun q hq => hl q (List.mem_cons_of_mem _ hq)) ha).elim fun cl zz1 => zz1.elim fun c1 zz2 => zz2.elim fun c2 c3 => ?_; clear zz2 zz1
        refine ⟨cl, by simp only [Bool.false_eq_true, if_false]; exact c1, c2, fun x h => c3 x ?_⟩
        rcases h with h | h
        · exact .inl h
        · rcases List.mem_cons.mp h with q | q
          · rw [← q] at hk; simp at hk
          · exact .inr q
  refine (key scope.names [] hf (fun x a h => by simp at h)).elim fun cl zz1 => zz1.elim fun c1 zz2 => zz2.elim fun c2 c3 => ?_; clear zz2 zz1
  refine ⟨cl, ?_, c2, fun x h => c3 x (.inr (mem_of_lookup h))⟩
  unfold closureFor
  simp only [bind_pure]
  exact c1
theorem newEnvComp {M : Model} {A : Around} {E : Value → Shared → Prop} {s : Shared} {scope : Scope} {globals : Addr} {cl : List (Str × Addr)} {qual : Str} {outer : Env} {Q : Env → Shared → Prop}
    (h : Q { scope := scope, locals := s.heap.objs.size, globals := globals, cells := cellsFrom (s.heap.objs.size + 1) scope.names [] ++ cl, qual := qual, func := none, code := outer.code, frame := outer.frame, builtins := outer.builtins }
      { s with heap := pushCells (s.heap.push { cls := .type "dict", data := .dict #[] }) scope.names }) :
    wpAny M A (newFunctionEnv scope globals cl [] qual none .none (some outer)) Q E s := by
  simp only [newFunctionEnv, Option.isSome_some, if_true]
  refine wpAny_bind (wpAny_alloc ?_)
  refine wpAny_bind (wpAny_layCells _ (fun name kind cells => by cases hkc : kind == NameKind.cell <;> simp [hkc]) _ _ _ _ ?_)
  rw [show ({ s with heap := s.heap.push { cls := .type "dict", data := .dict #[] } } : Shared).heap.objs.size = s.heap.objs.size + 1 from Heap.size_push .., cellsFrom_app]
  refine wpAny_bind ?_
  rw [List.forIn_nil]
  exact wpAny_pure (wpAny_pure h)
end
section
noncomputable def ownK (scope : Scope) (x : Str) : Prop := scope.names.lookup x = some .local ∨ scope.names.lookup x = some .cell
section
variable {C : Cx} {sc : Scope} {vars : Vars} {H : List AO}
noncomputable def CMP (C : Cx) (sc : Scope) (vars : Vars) (H : List AO) (elt : Expr) (g : Comprehension) (gs : List Comprehension) (scope : Scope) (Q : List AV → List AO → Prop) : Prop :=
  EVI C sc vars H g.target g.iter fun fs xs H1 => ∃ Inv : Nat → List AV → Vars → List AO → Prop, Inv 0 [] (capV scope vars) H1 ∧
    (∀ k x zs vars H, xs[k]? = some x → Inv k zs vars H → AS (C.hold fs) (relS scope sc) vars H g.target x fun v2 H2 => TST (C.hold fs) (relS scope sc) v2 H2 g.ifs fun b H3 =>
      if b = true then CG (relS scope sc) elt gs (C.hold fs) v2 H3 zs fun zs' v4 H4 => Inv (k + 1) zs' v4 H4 else Inv (k + 1) zs v2 H3) ∧
    ∀ zs v H, Inv xs.length zs v H → Q zs H
theorem comp_core {elt : Expr} {g : Comprehension} {gs : List Comprehension} {scope : Scope} {pos p : Pos} {use : Option (Value → Sem Unit)} {Qf : Value → Shared → Prop} {Q : List AV → List AO → Prop} (ok : compOk sc scope = true) (ha : g.is_async = 0)
    (hfold : ∀ env x, foldedSetIterable g.iter env x = pure x) (tg : ∀ g' ∈ g :: gs, ∀ x, Tgt x g'.target → ownK scope x) (h : CMP C sc vars H elt g gs scope Q)
    {A : Around} {env : Env} {ρ φ : List Addr} {s : Shared} (hA : AOk C.d A) (hE : EnvOk sc env) (R : Rep C.B ρ φ H s) (V : RVars C.B ρ φ env vars s.heap)
    (Fin : ∀ D L ρ5 φ5 H5 ys vs (s' : Shared) f, Ext C.F ρ φ s.heap ρ5 (φ5.filter fun a => a != D) s'.heap → Rep C.B ρ5 φ5 H5 s' → s'.heap.PlainList D vs → RVs C.B ρ5 φ5 s'.heap ys vs.toList → D ∉ ρ5 ∧ D ∈ φ5 → L ∈ φ5 ∧ L ≠ D → s.heap.get? L = none → s.heap.get? D = none → (∃ m, s'.heap.Ns L m) → Q ys H5 →
      compPost (model C.B.prog C.B.w) A noE use Qf (.ref D) L (.ok f) s') :
    wpAny (model C.B.prog C.B.w) A (comprehension (.ListComp elt (g :: gs) scope pos) scope env p (newList []) false (eval g.iter env) use) Qf noE s := by
  refine (closure_ok hE V.cellsAll ok).elim fun cl zz1 => zz1.elim fun c1 zz2 => zz2.elim fun c2 c3 => ?_; clear zz2 zz1
  have ok' := ok
  unfold compOk at ok'
  simp only [Bool.and_eq_true, beq_iff_eq] at ok'
  refine ok'.elim fun zz1 o4 => zz1.elim fun zz2 o3 => zz2.elim fun o1 o2 => ?_; clear zz2 zz1; (try clear ok')
  have n2 : ∀ x ∈ scope.names, x.2 = .local → scope.names.lookup x.1 = some .local := fun x hx hk => by
    have := List.all_eq_true.mp o2 x hx
    rw [hk] at this; simpa using this
  have n3 : ∀ x ∈ scope.names, x.2 = .cell → scope.names.lookup x.1 = some .cell := fun x hx hk => by
    have := List.all_eq_true.mp o3 x hx
    rw [hk] at this; simpa using this
  have n4 : ∀ x ∈ scope.names, x.2 = .free → scope.names.lookup x.1 = some .free ∧ (sc.names.lookup x.1 = some .cell ∨ sc.names.lookup x.1 = some .free) := fun x hx hk => by
    have := List.all_eq_true.mp o4 x hx
    rw [hk] at this; simpa using this
  refine wpAny_comprehension_free (cl := cl) rfl (hfold env) c1 o1 n2 (wpAny_mono (h A env ρ φ s hA hE R V) (fun x s1 h1 => wpAny_mono h1 (fun it s2 h2 => ?_) fun _ _ x => x) fun _ _ x => x)
  obtain ⟨ρ1, φ1, H1, g1, fs, xs, I, wr, fp, St, rfl, X1, R1, W, Inv, i0, istep, iend⟩ := h2
  have V1 := V.ext X1
  have W12 : ExtW ρ1 φ1 g1 ρ1 φ1 s2.heap := ⟨List.prefix_rfl, fun a o e n _ => ⟨W.keeps a o e, n⟩⟩
  have V2 : RVars C.B ρ1 φ1 env vars s2.heap := V1.extW W12 (fun a o e q => ⟨W.keeps a o e, by
    rcases q with q | ⟨x, q⟩
    · subst q; exact V1.locn
    · exact V1.celln x a q⟩) fun _ q => q
  refine wpAny_newList ?_ (sz_ok (by simp))
  refine newEnvComp ?_
  generalize hDD : s2.heap.objs.size = D
  generalize hs3 : s2.heap.push { cls := .type "list", data := .seq ([] : List Value).toArray } = h3
  have hL : h3.objs.size = D + 1 := by rw [← hs3, Heap.size_push, hDD]
  rw [show ({ s2 with heap := h3 } : Shared).heap.objs.size = D + 1 from hL]
  have OK := cellsFrom_ok scope.names (h3.push { cls := .type "dict", data := .dict #[] }) (D + 1 + 1) [] ⟨fun _ _ hm => (nomatch hm), List.Pairwise.nil⟩ (by rw [Heap.size_push, hL]; exact Nat.le_refl _)
  rw [Heap.size_push, hL] at OK
  have k34 : ∀ b o, h3.get? b = some o → (pushCells (h3.push { cls := .type "dict", data := .dict #[] }) scope.names).get? b = some o := fun b o e => pushCells_keeps _ _ b o (Heap.get?_push_of_some _ e)
  have nsL : (pushCells (h3.push { cls := .type "dict", data := .dict #[] }) scope.names).Ns (D + 1) fun _ => none := by
    rw [← hL]
    exact (Heap.Ns.new h3 (.type "dict")).keeps (pushCells_keeps _ _)
  generalize hh4 : pushCells (h3.push { cls := .type "dict", data := .dict #[] }) scope.names = h4 at OK k34 nsL
  generalize hown : cellsFrom (D + 1 + 1) scope.names [] = own at OK
  have k24 : ∀ b o, s2.heap.get? b = some o → h4.get? b = some o := fun b o e => k34 b o (by rw [← hs3]; exact Heap.get?_push_of_some _ e)
  have hD4 : h4.PlainList D #[] := ⟨0, k34 _ _ (by rw [← hs3, ← hDD]; exact Heap.get?_push_size _ rfl)⟩
  have lt2 : ∀ {a o}, s2.heap.get? a = some o → a < D := fun e => by rw [← hDD]; exact Heap.lt_size e
  have alive2 : ∀ a, a ∈ ρ1 ∨ a ∈ φ1 → a < D := fun a q => (R1.alive a q).elim fun o e => lt2 e
  have ownge : ∀ {x a}, (x, a) ∈ own → D + 1 + 1 ≤ a := fun hm => (OK.empty _ _ hm).2
  let φ4 := D :: (D + 1) :: (own.map (·.2) ++ φ1)
  have in4 : ∀ {a}, a ∈ φ4 → a ∈ φ1 ∨ D ≤ a := fun {a} q => by
    rcases List.mem_cons.mp q with q | q
    · exact .inr (Nat.le_of_eq q.symm)
    · rcases List.mem_cons.mp q with q | q
      · exact .inr (by rw [q]; exact Nat.le_succ _)
      · rcases List.mem_append.mp q with q | q
        · refine (List.mem_map.mp q).elim fun pp zz1 => zz1.elim fun hp e => ?_; clear zz1
          have := ownge (x := pp.1) (a := pp.2) hp
          exact .inr (by rw [← e]; lia)
        · exact .inl q
  have out4 : ∀ {a}, a < D → a ∉ φ1 → a ∉ φ4 := fun {a} l n q => (in4 q).elim n fun q => absurd l (Nat.not_lt.mpr q)
  have sub4 : ∀ a ∈ φ1, a ∈ φ4 := fun a q => List.mem_cons_of_mem _ (List.mem_cons_of_mem _ (List.mem_append_right _ q))
  have own4 : ∀ {x a}, (x, a) ∈ own → a ∈ φ4 := fun {x a} q => List.mem_cons_of_mem _ (List.mem_cons_of_mem _ (List.mem_append_left _ (List.mem_map.mpr ⟨(x, a), q, rfl⟩)))
  have W4 : ExtW ρ1 φ1 s2.heap ρ1 φ4 h4 := ⟨List.prefix_rfl, fun a o e n _ => ⟨k24 a o e, n.1, out4 (lt2 e) n.2⟩⟩
  have live4 : ∀ a, a ∈ ρ1 ∨ a ∈ φ4 → ∃ o, h4.get? a = some o := fun a q => by
    rcases q with q | q
    · refine (R1.alive a (.inl q)).elim fun o e => ?_; exact ⟨o, k24 a o e⟩
    · rcases List.mem_cons.mp q with q | q
      · refine hD4.elim fun m e => ?_; (try clear hD4); exact ⟨_, q ▸ e⟩
      · rcases List.mem_cons.mp q with q | q
        · refine nsL.elim fun o zz1 => zz1.elim fun _ zz2 => zz2.elim fun _ zz3 => zz3.elim fun e _ => ?_; clear zz3 zz2 zz1; (try clear nsL); exact ⟨o, q ▸ e⟩
        · rcases List.mem_append.mp q with q | q
          · refine (List.mem_map.mp q).elim fun pp zz1 => zz1.elim fun hp e => ?_; clear zz1
            refine (OK.empty pp.1 pp.2 hp).elim fun zz1 _ => zz1.elim fun o zz2 => zz2.elim fun e1 _ => ?_; clear zz2 zz1
            exact ⟨o, e ▸ e1⟩
          · refine (R1.alive a (.inr q)).elim fun o e => ?_; exact ⟨o, k24 a o e⟩
  have R4 : Rep C.B ρ1 φ4 H1 { s2 with heap := h4 } := R1.step (s' := { s2 with heap := h4 }) W4 (fun b o e => k24 b o (R1.base b o e)) R1.len R1.nodup
    (fun i o b e1 e2 => .inl ⟨e1, e2, by refine (R1.alive b (.inl (List.mem_of_getElem? e2))).elim fun o' q => ?_; show h4.get? b = _; rw [q]; exact k24 b o' q⟩)
    (fun b q => by
      rcases q with q | q
      · exact .inl (.inl q)
      · rcases in4 q with q | q
        · exact .inl (.inr q)
        · exact .inr (by rw [hDD]; exact q))
    (fun b q z => by
      rcases in4 q with q | q
      · exact R1.disj b q z
      · exact absurd (alive2 b (.inl z)) (Nat.not_lt.mpr q)) live4
  have capK : ∀ x, scope.names.lookup x = some .free → own.lookup x = none := fun x hf => by
    cases e : own.lookup x with
    | none => rfl
    | some a =>
      have hm := cellsFrom_kind scope.names (D + 1 + 1) (by rw [hown]; exact mem_of_lookup e)
      rw [n3 _ hm rfl] at hf; cases hf
  rw [relabel_eq hE]
  have hE4 : EnvOk (relS scope sc) { scope := relS scope sc, locals := D + 1, globals := env.globals, cells := own ++ cl, qual := env.qual, func := none, code := env.code, frame := env.frame, builtins := env.builtins } := ⟨rfl, o1, hE.globals, hE.builtins⟩
  generalize henv : ({ scope := relS scope sc, locals := D + 1, globals := env.globals, cells := own ++ cl, qual := env.qual, func := none, code := env.code, frame := env.frame, builtins := env.builtins } : Env) = env4 at hE4
  have eL : env4.locals = D + 1 := by rw [← henv]
  have eC : env4.cells = own ++ cl := by rw [← henv]
  have look4 : ∀ {x a}, env4.cells.lookup x = some a → own.lookup x = some a ∨ (own.lookup x = none ∧ cl.lookup x = some a) := fun {x a} e => by
    rw [eC, lookup_app] at e
    cases e1 : own.lookup x with
    | some b => rw [e1] at e; simp at e; exact .inl (by rw [e])
    | none => rw [e1] at e; simp at e; exact .inr ⟨rfl, e⟩
  have V4 : RVars C.B ρ1 φ4 env4 (capV scope vars) h4 := by
    refine ⟨⟨_, by rw [eL]; exact nsL, fun x v e k => ?_⟩, fun x v e k => ?_, fun x a e => ?_, by rw [eL]; exact fun q => absurd (alive2 _ (.inl q)) (Nat.not_lt.mpr (Nat.le_succ _)), by rw [eL]; exact List.mem_cons_of_mem _ List.mem_cons_self, fun x a e => ?_, fun x y a e1 e2 => ?_, fun x k => ?_⟩
    · refine (lookup_filter (p := fun y => isCap scope (Str.ofString y)) e).elim fun _ hcap => ?_
      have hf : scope.names.lookup (Str.ofString x) = some .free := by simpa [isCap] using hcap
      rw [hE4.kindOf, relS_lookup, hf] at k
      simp only [Option.map_some] at k
      split at k <;> cases k
    · refine (lookup_filter (p := fun y => isCap scope (Str.ofString y)) e).elim fun hv hcap => ?_
      have hf : scope.names.lookup (Str.ofString x) = some .free := by simpa [isCap] using hcap
      refine (c3 _ hf).elim fun a ea => ?_
      have eo := (c2 _ _ ea).1
      refine (V2.cells x v hv (by rw [hE.kindOf]; exact (n4 _ (mem_of_lookup hf) rfl).2)).elim fun a' zz1 => zz1.elim fun c zz2 => zz2.elim fun q1 zz3 => zz3.elim fun q2 q3 => ?_; clear zz3 zz2 zz1
      rw [eo] at q1; cases q1
      refine q2.elim fun oc zz1 => zz1.elim fun q4 q5 => ?_; clear zz1; (try clear q2)
      exact ⟨a, c, by rw [eC, lookup_app, capK _ hf]; simpa using ea, ⟨oc, k24 _ _ q4, q5⟩, q3.ext W4⟩
    · rcases look4 e with q | ⟨_, q⟩
      · exact ⟨none, (OK.empty _ _ (mem_of_lookup q)).1⟩
      · refine (V2.iscell x a (c2 _ _ q).1).elim fun v zz1 => zz1.elim fun oc zz2 => zz2.elim fun q4 q5 => ?_; clear zz2 zz1
        exact ⟨v, oc, k24 _ _ q4, q5⟩
    · rcases look4 e with q | ⟨_, q⟩
      · exact fun z => absurd (alive2 _ (.inl z)) (Nat.not_lt.mpr (by have := ownge (mem_of_lookup q); lia))
      · exact V2.celln x a (c2 _ _ q).1
    · rcases look4 e1 with q | ⟨_, q⟩ <;> rcases look4 e2 with q' | ⟨_, q'⟩
      · exact name_of_addr OK.apart (mem_of_lookup q) (mem_of_lookup q')
      · refine (V2.iscell y a (c2 _ _ q').1).elim fun v zz1 => zz1.elim fun oc zz2 => zz2.elim fun q4 q5 => ?_; clear zz2 zz1
        exact absurd (lt2 q4) (Nat.not_lt.mpr (by have := ownge (mem_of_lookup q); lia))
      · refine (V2.iscell x a (c2 _ _ q).1).elim fun v zz1 => zz1.elim fun oc zz2 => zz2.elim fun q4 q5 => ?_; clear zz2 zz1
        exact absurd (lt2 q4) (Nat.not_lt.mpr (by have := ownge (mem_of_lookup q'); lia))
      · exact V2.apart x y a (c2 _ _ q).1 (c2 _ _ q').1
    · rw [hE4.kindOf, relS_lookup] at k
      have hk : scope.names.lookup x = some .cell ∨ scope.names.lookup x = some .free := by
        cases e : scope.names.lookup x with
        | none => rw [e] at k; rcases k with k | k <;> cases k
        | some kk =>
          rw [e] at k
          simp only [Option.map_some] at k
          by_cases hc : (kk == NameKind.free && sc.names.lookup x == some .cell) = true
          · simp only [Bool.and_eq_true, beq_iff_eq] at hc
            exact .inr (by rw [hc.1])
          · rw [if_neg hc] at k
            simpa using k
      rcases hk with hk | hk
      · have := cellsFrom_some (x := x) scope.names (D + 1 + 1) [] (.inl hk)
        rw [hown] at this
        refine (Option.isSome_iff_exists.mp this).elim fun a ea => ?_
        exact ⟨a, by rw [eC, lookup_app, ea]; rfl⟩
      · refine (c3 _ hk).elim fun a ea => ?_
        exact ⟨a, by rw [eC, lookup_app, capK _ hk]; simpa using ea⟩
  have TO4 : ∀ g' ∈ g :: gs, TOwn φ4 env4 g'.target := fun g' hg x a t e => by
    rcases look4 e with q | ⟨_, q⟩
    · exact own4 (mem_of_lookup q)
    · have hf := (c2 _ _ q).2
      rcases tg g' hg x t with w | w <;> rw [w] at hf <;> cases hf
  have g1lt : ∀ {a o}, g1.get? a = some o → a < D := fun e => lt2 (W.keeps _ _ e)
  have none1 : ∀ a, D ≤ a → g1.get? a = none := fun a q => by
    cases e : g1.get? a with
    | none => rfl
    | some o => exact absurd (g1lt e) (Nat.not_lt.mpr q)
  have none0 : ∀ a, D ≤ a → s.heap.get? a = none := fun a q => by
    cases e : s.heap.get? a with
    | none => rfl
    | some o =>
      by_cases hr : a ∈ ρ
      · refine (List.getElem_of_mem hr).elim fun i hi => ?_
        exact absurd (alive2 a (.inl (X1.pre.subset hr))) (Nat.not_lt.mpr q)
      · exact absurd (g1lt (X1.keep a o e hr).1) (Nat.not_lt.mpr q)
  refine codeAny_mono (loop_of_iter (P := ownK scope) (Q := fun ys _ H5 => Q ys H5) (gens := g :: gs) (gs := gs) (depth := 0) rfl ha (inner_ok gs 1 rfl) W Inv i0 istep (fun zs v H5 q => iend zs v H5 q) hA hE4 R4 V4 (TO4 g List.mem_cons_self) (fun g' hg => TO4 g' (List.mem_cons_of_mem _ hg))
    (tg g List.mem_cons_self) (fun g' hg => tg g' (List.mem_cons_of_mem _ hg)) List.mem_cons_self (fun q => absurd (alive2 _ (.inl q)) (Nat.lt_irrefl _)) hD4 .nil (W.frame 0 s2.heap h4 W.st fun b _ o e => k24 b o e)
    ⟨List.prefix_rfl, fun a o e n _ _ _ => ⟨k24 a o (W.keeps a o e), n, out4 (g1lt e)⟩, sub4, fun i a _ e => by refine (W.alive a (.inl (List.mem_of_getElem? e))).elim fun o q => ?_; rw [q]; exact k24 a o (W.keeps a o q)⟩
    (.inr (by rw [eL]; exact none1 _ (Nat.le_succ _))) (.inr (none1 _ (Nat.le_refl _))) (fun b hb => ?_)) fun r s' hr => ?_
  · refine (W.wrIn 0 _ W.st b hb).elim fun o zz1 => zz1.elim fun e _ => ?_; clear zz1
    have hb1 : b ∉ ρ1 ∧ b ∉ φ1 := ⟨(fun q => by refine (W.alive b (.inl q)).elim fun o e => ?_; exact absurd (Heap.lt_size e) (Nat.not_lt.mpr (W.new b hb))), (fun q => by refine (W.alive b (.inr q)).elim fun o e => ?_; exact absurd (Heap.lt_size e) (Nat.not_lt.mpr (W.new b hb)))⟩
    exact ⟨hb1.1, out4 (lt2 e) hb1.2⟩
  · cases r with
    | error e => exact hr.elim
    | ok f =>
      refine hr.elim fun ρ5 φ5 H5 v5 ys X5 R5 V5 nD zz1 q5 => zz1.elim fun vs zz2 => zz2.elim fun p5 r5 => ?_; clear zz2 zz1; (try clear hr)
      have X15 : Ext C.F ρ1 φ1 g1 ρ5 (φ5.filter fun a => a != D) s'.heap := ⟨X5.pre, fun a o e n => by
          have l := g1lt e
          obtain ⟨q1, q2, q3⟩ := X5.keep a o e n (by rw [eL]; exact Nat.ne_of_lt (Nat.lt_succ_of_lt l)) (Nat.ne_of_lt l) (fun x px hx => by
            rcases look4 hx with q | ⟨_, q⟩
            · exact absurd l (Nat.not_lt.mpr (by have := ownge (mem_of_lookup q); lia))
            · have hf := (c2 _ _ q).2
              rcases px with w | w <;> rw [w] at hf <;> cases hf)
          exact ⟨q1, q2, fun z q => q3 z (List.mem_filter.mp q).1⟩, fun a q => List.mem_filter.mpr ⟨X5.sub a q, by have := alive2 a (.inr q); simp; exact Nat.ne_of_lt this⟩, X5.held⟩
      have hns : ∃ m, s'.heap.Ns (D + 1) m := by
        refine V5.loc.elim fun m zz1 => zz1.elim fun h _ => ?_; clear zz1
        rw [eL] at h
        exact ⟨m, h⟩
      exact Fin D (D + 1) ρ5 φ5 H5 ys vs s' f (X1.trans X15) R5 p5 r5 nD ⟨by have := V5.locφ; rw [eL] at this; exact this, Nat.succ_ne_self _⟩ (none0 _ (Nat.le_succ _)) (none0 _ (Nat.le_refl _)) hns q5
end
end
section
section
variable {B : Base} {ρ φ : List Addr} {H : List AO} {s : Shared}
theorem Rep.close (R : Rep B ρ φ H s) {D : Addr} : ExtW ρ φ s.heap ρ (φ.filter fun a => a != D) s.heap ∧ Rep B ρ (φ.filter fun a => a != D) H s := by
  have W6 : ExtW ρ φ s.heap ρ (φ.filter fun a => a != D) s.heap := ⟨List.prefix_rfl, fun a o e n _ => ⟨e, n.1, fun q => n.2 (List.mem_filter.mp q).1⟩⟩
  exact ⟨W6, R.step W6 R.base R.len R.nodup (fun i o b e1 e2 => .inl ⟨e1, e2, rfl⟩) (fun b q => .inl (q.imp_right fun q => (List.mem_filter.mp q).1))
    (fun b q => R.disj b (List.mem_filter.mp q).1) (fun b q => R.alive b (q.imp_right fun q => (List.mem_filter.mp q).1))⟩
theorem Rep.dropL (R : Rep B ρ φ H s) {L : Addr} {h' : Heap} (hφ : L ∈ φ) (hs : Heap.SameBut L s.heap h') : ExtW ρ φ s.heap ρ (φ.filter fun a => a != L) h' ∧ Rep B ρ (φ.filter fun a => a != L) H { s with heap := h' } := by
  have hρ := R.disj L hφ
  have W6 : ExtW ρ φ s.heap ρ (φ.filter fun a => a != L) h' := ⟨List.prefix_rfl, fun a o e n _ => ⟨(hs.2 a fun z => n.2 (z ▸ hφ)).trans e, n.1, fun q => n.2 (List.mem_filter.mp q).1⟩⟩
  refine ⟨W6, R.step (s' := { s with heap := h' }) W6 (fun a o e => (hs.2 a fun z => (R.baseNotin e).2 (z ▸ hφ)).trans (R.base a o e)) R.len R.nodup (fun i o b e1 e2 => .inl ⟨e1, e2, hs.2 b fun z => hρ (z ▸ List.mem_of_getElem? e2)⟩)
    (fun b q => .inl (q.imp_right fun q => (List.mem_filter.mp q).1)) (fun b q => R.disj b (List.mem_filter.mp q).1) (fun b q => ?_)⟩
  have hb : b ≠ L := fun z => by
    subst z
    rcases q with q | q
    · exact hρ q
    · have := (List.mem_filter.mp q).2; simp at this
  refine (R.alive b (q.imp_right fun q => (List.mem_filter.mp q).1)).elim fun o e => ?_
  exact ⟨o, (hs.2 b hb).trans e⟩
theorem Ext.dropL {F : List Nat} {ρ' φ' : List Addr} {h0 h h' : Heap} (X : Ext F ρ φ h0 ρ' φ' h) (al : ∀ a, a ∈ ρ ∨ a ∈ φ → ∃ o, h0.get? a = some o) {L : Addr} (hL : h0.get? L = none) (hs : Heap.SameBut L h h') : Ext F ρ φ h0 ρ' (φ'.filter fun a => a != L) h' :=
  have ne : ∀ {a o}, h0.get? a = some o → a ≠ L := fun e z => by rw [z, hL] at e; cases e
  ⟨X.pre, fun a o e n => (X.keep a o e n).elim fun q1 zz1 => zz1.elim fun q2 q3 => ⟨(hs.2 a (ne e)).trans q1, q2, fun m q => q3 m (List.mem_filter.mp q).1⟩, fun a q => List.mem_filter.mpr ⟨X.sub a q, by refine (al a (.inr q)).elim fun o e => ?_; simpa using ne e⟩,
    fun i a hi e => (hs.2 a (by refine (al a (.inl (List.mem_of_getElem? e))).elim fun o e' => ?_; exact ne e')).trans (X.held i a hi e)⟩
theorem ExtP.dropL {P : Str → Prop} {env : Env} {F : List Nat} {ρ' φ' : List Addr} {h0 h h' : Heap} (X : ExtP P env F ρ φ h0 ρ' φ' h) (al : ∀ a, a ∈ ρ ∨ a ∈ φ → ∃ o, h0.get? a = some o) {L : Addr} (hL : h0.get? L = none) (hs : Heap.SameBut L h h') : ExtP P env F ρ φ h0 ρ' (φ'.filter fun a => a != L) h' :=
  have ne : ∀ {a o}, h0.get? a = some o → a ≠ L := fun e z => by rw [z, hL] at e; cases e
  ⟨X.pre, fun a o e n n1 n2 => (X.keep a o e n n1 n2).elim fun q1 zz1 => zz1.elim fun q2 q3 => ⟨(hs.2 a (ne e)).trans q1, q2, fun m q => q3 m (List.mem_filter.mp q).1⟩, fun a q => List.mem_filter.mpr ⟨X.sub a q, by refine (al a (.inr q)).elim fun o e => ?_; simpa using ne e⟩,
    fun i a hi e => (hs.2 a (by refine (al a (.inl (List.mem_of_getElem? e))).elim fun o e' => ?_; exact ne e')).trans (X.held i a hi e)⟩
end
section
variable {C : Cx} {sc : Scope} {vars : Vars} {H : List AO}
theorem comp_eval {elt : Expr} {g : Comprehension} {gs : List Comprehension} {scope : Scope} {pos : Pos} {env : Env} (ha : g.is_async = 0) : eval (.ListComp elt (g :: gs) scope pos) env = comprehension (.ListComp elt (g :: gs) scope pos) scope env g.iter.pos (newList []) false (eval g.iter env) none := by
  obtain ⟨t, it, ifs, a⟩ := g
  simp only at ha
  subst ha
  rfl
theorem EV_comp {elt : Expr} {g : Comprehension} {gs : List Comprehension} {scope : Scope} {pos : Pos} {Q : AV → List AO → Prop} (ok : compOk sc scope = true) (ha : g.is_async = 0) (hfold : ∀ env x, foldedSetIterable g.iter env x = pure x)
    (tg : ∀ g' ∈ g :: gs, ∀ x, Tgt x g'.target → ownK scope x) (h : CMP C sc vars H elt g gs scope fun ys H1 => Q (.list ys) H1) : EV C sc vars H (.ListComp elt (g :: gs) scope pos) Q := fun A env ρ φ s hA hE R V => by
  rw [comp_eval ha]
  refine comp_core ok ha hfold tg h hA hE R V fun D L ρ5 φ5 H5 ys vs s' f X R5 p5 r5 nD hL nL nD0 hns q => ?_
  refine hns.elim fun m hm => ?_; (try clear hns)
  refine (R5.close (D := D)).elim fun W6 R6 => ?_
  refine ⟨m, hm, fun h' hs => ?_⟩
  refine (R6.dropL (L := L) (List.mem_filter.mpr ⟨hL.1, by simpa using hL.2⟩) hs).elim fun W7 R7 => ?_
  have hDL : D ≠ L := fun z => hL.2 z.symm
  refine p5.elim fun k eD => ?_; (try clear p5)
  exact ⟨ρ5, _, H5, .list ys, X.dropL R.alive nL hs, R7, .list ⟨k, (hs.2 D hDL).trans eD⟩ ⟨nD.1, fun z => by have := (List.mem_filter.mp (List.mem_filter.mp z).1).2; simp at this⟩ ((r5.ext W6).ext W7), q⟩
theorem assign_used {x : String} {pos' pos : Pos} {elt : Expr} {g : Comprehension} {gs : List Comprehension} {scope : Scope} {cpos : Pos} {env : Env} (ha : g.is_async = 0) (hsw : swapsWith (.ListComp elt (g :: gs) scope cpos) (some (.Name (Str.ofString x) pos')) pos.line env = pure true) :
    exec (.Assign [.Name (Str.ofString x) pos'] (.ListComp elt (g :: gs) scope cpos) pos) env = (do
      standAt pos
      let _ ← comprehension (.ListComp elt (g :: gs) scope cpos) scope env g.iter.pos (newList []) false (eval g.iter env) (some (assign (.Name (Str.ofString x) pos') env))
      return .next) := by
  rw [exec_Assign_Name_used _ _ _ _ hsw]
  obtain ⟨t, it, ifs, a⟩ := g
  simp only at ha
  subst ha
  have e : evalThenUse (.ListComp elt (⟨t, it, ifs, 0⟩ :: gs) scope cpos) env (assign (.Name (Str.ofString x) pos') env) = (do
      let _ ← comprehension (.ListComp elt (⟨t, it, ifs, 0⟩ :: gs) scope cpos) scope env it.pos (newList []) false (eval it env) (some (assign (.Name (Str.ofString x) pos') env))) := rfl
  rw [e]
  simp only [bind_assoc, pure_bind]
theorem RVars.dropL {B : Base} {ρ φ : List Addr} {env : Env} {s : Shared} {h' : Heap} {L : Addr} {φ' : List Addr} (V : RVars B ρ φ env vars s.heap) (W : ExtW ρ φ s.heap ρ (φ.filter fun a => a != L) h') (hs : Heap.SameBut L s.heap h') (h1 : L ≠ env.locals) (h2 : ∀ x, env.cells.lookup x ≠ some L) : RVars B ρ (φ.filter fun a => a != L) env vars h' := by
  obtain ⟨⟨m, ⟨o, es, ep, ho, hd, hr⟩, hm⟩, hc, hi, hn, hφ, hci, ha, hca⟩ := V
  refine ⟨⟨m, ⟨o, es, ep, (hs.2 _ (Ne.symm h1)).trans ho, hd, hr⟩, fun x v e k => let ⟨c, q1, q2⟩ := hm x v e k; ⟨c, q1, q2.ext W⟩⟩, fun x v e k => ?_, fun x a e => ?_, hn, List.mem_filter.mpr ⟨hφ, by simpa using Ne.symm h1⟩, hci, ha, hca⟩
  · obtain ⟨a, c, q1, ⟨oc, q2, q3⟩, q4⟩ := hc x v e k
    exact ⟨a, c, q1, ⟨oc, (hs.2 a fun z => h2 x (z ▸ q1)).trans q2, q3⟩, q4.ext W⟩
  · obtain ⟨v, oc, q2, q3⟩ := hi x a e
    exact ⟨v, oc, (hs.2 a fun z => h2 x (z ▸ e)).trans q2, q3⟩
theorem EX_comp {x : String} {pos' pos : Pos} {elt : Expr} {g : Comprehension} {gs : List Comprehension} {scope : Scope} {cpos : Pos} {Q : AF → Vars → List AO → Prop} (hsw : ∀ env, EnvOk sc env → swapsWith (.ListComp elt (g :: gs) scope cpos) (some (.Name (Str.ofString x) pos')) pos.line env = pure true)
    (hx : isOwn sc (Str.ofString x) = true) (ok : compOk sc scope = true) (ha : g.is_async = 0) (hfold : ∀ env x, foldedSetIterable g.iter env x = pure x)
    (tg : ∀ g' ∈ g :: gs, ∀ x, Tgt x g'.target → ownK scope x) (h : CMP C sc vars H elt g gs scope fun ys H1 => Q .next (upd x (.list ys) vars) H1) : EX C sc vars H (.Assign [.Name (Str.ofString x) pos'] (.ListComp elt (g :: gs) scope cpos) pos) Q := fun A env ρ φ s hA hE R V O => by
  rw [assign_used ha (hsw env hE)]
  refine wpAny_bind (wpAny_standAt (wpAny_bind (comp_core (Qf := fun _ s' => wpAny (model C.B.prog C.B.w) A (pure Flow.next) (PostS C env ρ φ s Q) noE s') ok ha hfold tg h hA hE R V fun D L ρ5 φ5 H5 ys vs s' f X R5 p5 r5 nD hL nL nD0 hns q => ?_)))
  refine hns.elim fun m hm => ?_; (try clear hns)
  refine (R5.close (D := D)).elim fun W6 R6 => ?_
  have V6 := V.ext X
  have rv : RV C.B ρ5 (φ5.filter fun a => a != D) s'.heap (.list ys) (.ref D) := .list p5 ⟨nD.1, fun z => by have := (List.mem_filter.mp z).2; simp at this⟩ (r5.ext W6)
  have neL : L ≠ env.locals := fun z => by
    refine V.loc.elim fun _ zz1 => zz1.elim fun zz2 _ => zz2.elim fun o zz3 => zz3.elim fun _ zz4 => zz4.elim fun _ zz5 => zz5.elim fun e _ => ?_; clear zz5 zz4 zz3 zz2 zz1
    rw [← z, nL] at e; cases e
  have neC : ∀ y, env.cells.lookup y ≠ some L := fun y e => by
    refine (V.iscell y L e).elim fun _ zz1 => zz1.elim fun o zz2 => zz2.elim fun e' _ => ?_; clear zz2 zz1
    rw [nL] at e'; cases e'
  have hL6 : L ∈ φ5.filter fun a => a != D := List.mem_filter.mpr ⟨hL.1, by simpa using hL.2⟩
  refine wpAny_assign_Name (wpAny_mono (store_ok (Q := fun vs H => Q .next vs H) hx q hA hE R6 V6 (fun a e => X.sub a (O _ a e)) rv) (fun _ s9 zz1 => zz1.elim fun ρ9 φ9 H9 v9 X9 R9 V9 q9 => ?_) fun _ _ x => x)
  refine ⟨m, ?_, fun h' hs => wpAny_pure ?_⟩
  · refine hm.elim fun o zz1 => zz1.elim fun es zz2 => zz2.elim fun ep zz3 => zz3.elim fun e r => ?_; clear zz3 zz2 zz1; (try clear hm)
    exact ⟨o, es, ep, (X9.keep L o e (R6.disj L hL6) neL (fun y _ e => absurd e (neC y))).1, r⟩
  · refine (R9.dropL (L := L) (X9.sub L hL6) hs).elim fun W7 R7 => ?_
    exact ⟨ρ9, _, H9, v9, .next, (X.s.trans X9.all).dropL R.alive nL hs, R7, V9.dropL (φ' := φ) W7 hs neL neC, .next, q9⟩
theorem EX_assign' {x : String} {pos pos' : Pos} {value : Expr} {Q : AF → Vars → List AO → Prop} (hsw : ∀ env, EnvOk sc env → swapsWith value (some (.Name (Str.ofString x) pos')) pos.line env = pure false) (hx : isOwn sc (Str.ofString x) = true)
    (h : EV C sc vars H value (asgK x vars Q)) : EX C sc vars H (.Assign [.Name (Str.ofString x) pos'] value pos) Q := fun A env ρ φ s hA hE R V O =>
  wpAny_Assign_Name (wpAny_mono (h A env ρ φ s hA hE R V) (fun v s1 zz1 => zz1.elim fun ρ1 φ1 H1 v1 X1 R1 rv q1 =>
    wpAny_mono (store_ok (Q := fun vs H => Q .next vs H) hx q1 hA hE R1 (V.ext X1) (fun a e => X1.sub a (O _ a e)) rv) (fun _ s2 zz1 => zz1.elim fun ρ2 φ2 H2 v2 X2 R2 V2 q2 => ⟨ρ2, φ2, H2, v2, .next, X1.s.trans X2.all, R2, V2, .next, q2⟩) fun _ _ x => x) fun _ _ x => x) (hsw env hE)
end
end
section
theorem plain_ci_next : plainId "callable_iterator.__next__" = true := by decide +kernel
theorem slot_ci_next : Slot "callable_iterator" "__next__" "callable_iterator.__next__" :=
  .of (owner := "callable_iterator") (n := "__next__") (by rw [typeLookup_type, builtinLookup_eq_fast]; kernel_rfl) (by decide +kernel) (by decide +kernel) (by decide +kernel)
    (by first | exact .inl (by decide +kernel) | exact .inr (by decide +kernel)) (by rw [isSubtype_type]; kernel_rfl)
theorem entry_ci_next : entryFor table "callable_iterator.__next__" = some Builtin.«callable_iterator.__next__» := entryFor_of_fast (by kernel_rfl)
theorem args_ci_next (a : Value) : argsOk "callable_iterator.__next__" ⟨[a], []⟩ := by unfold argsOk; kernel_rfl
theorem slot_ci_iter : Slot "callable_iterator" "__iter__" "callable_iterator.__iter__" :=
  .of (owner := "callable_iterator") (n := "__iter__") (by rw [typeLookup_type, builtinLookup_eq_fast]; kernel_rfl) (by decide +kernel) (by decide +kernel) (by decide +kernel)
    (by first | exact .inl (by decide +kernel) | exact .inr (by decide +kernel)) (by rw [isSubtype_type]; kernel_rfl)
theorem entry_ci_iter : entryFor table "callable_iterator.__iter__" = some Builtin.«dict_keyiterator.__iter__» :=
  entryFor_alias (id' := "dict_keyiterator.__iter__") (by kernel_rfl) (by first | rfl | decide +kernel | (unfold String.splitOn; simp +decide [String.splitOnAux])) (by decide +kernel) (by kernel_rfl)
theorem args_ci_iter (a : Value) : argsOk "callable_iterator.__iter__" ⟨[a], []⟩ := by unfold argsOk; kernel_rfl
theorem kind_iter : builtinKind "iter" = none := by decide +kernel
theorem plain_iter : plainId "iter" = true := by decide +kernel
theorem entry_iter : entryFor table "iter" = some Builtin.«iter» := entryFor_of_fast (by kernel_rfl)
theorem args_iter2 (a b : Value) : argsOk "iter" ⟨[a, b], []⟩ := by unfold argsOk; kernel_rfl
theorem slot_meth_call : Slot "method" "__call__" "method.__call__" :=
  .of (owner := "method") (n := "__call__") (by rw [typeLookup_type, builtinLookup_eq_fast]; kernel_rfl) (by decide +kernel) (by decide +kernel) (by decide +kernel)
    (by first | exact .inl (by decide +kernel) | exact .inr (by decide +kernel)) (by rw [isSubtype_type]; kernel_rfl)
section
variable {prog : Program} {w : World} {A : Around} {E : Value → Shared → Prop} {s : Shared}
theorem callBorrowed_ok {M : Model} {f : Value} {pos : List Value} {Q : Value → Shared → Prop} (h : wpAny M A (call f pos) Q E s) : wpAny M A (callBorrowed f pos) Q E s := fun Γ p hΓ => by
  have := h Γ p hΓ
  rw [show (call f pos : Sem Value) = runValue (.call f ⟨pos, []⟩) from rfl, Sem.wp_runValue] at this
  unfold callBorrowed
  rw [Sem.wp_call]
  refine this.elim fun r zz1 => zz1.elim fun s' zz2 => zz2.elim fun h1 h2 => ?_; clear zz2 zz1; (try clear this)
  refine ⟨r, s', h1, ?_⟩
  cases r with
  | error e => exact h2
  | ok f => cases f <;> exact h2
theorem borrows_meth {M : Model} {m f : Addr} {self : Value} {o : Obj} {fd : FuncData} {Q : Bool → Shared → Prop} (hm : s.heap.get? m = some (methodObj (.ref f) self)) (hf : s.heap.get? f = some o) (hd : o.data = .func fd) (h : Q true s) : wpAny M A (borrowsExactly (.ref m)) Q E s := by
  unfold borrowsExactly
  refine wpAny_bind (wpAny_load hm ?_)
  show wpAny M A (do match (← load f).data with | .func _ => pure true | _ => pure false) Q E s
  refine wpAny_bind (wpAny_load hf ?_)
  rw [hd]
  exact wpAny_pure h
theorem stop_none {Q : Option Value → Shared → Prop} (hh : A.handled = none) (hQ : ∀ h', (∀ b o, s.heap.get? b = some o → h'.get? b = some o) → Q none { s with heap := h' }) {α : Type} {X : α → Shared → Prop} :
    wpAny (model prog w) A.in1 (Builtin.SmallTypes.stopIteration : Sem α) X (fun e s' => wpAny (model prog w) A (do if ← isInstance e (.type "StopIteration") then pure none else throw e) Q E s') s := by
  show wpAny _ _ (newExc (.type "StopIteration") [] >>= _) _ _ _
  refine wpAny_bind ?_
  simp only [newExc, newTuple]
  refine wpAny_bind (wpAny_newObj_type ?_ (by size_fits))
  refine wpAny_bind (m := firstArgMember _ _) (wpAny_of_eq (a := Value.none) (by first | rfl | (simp only [firstArgMember]; rfl)) ?_)
  refine wpAny_newObj_type ?_ (by size_fits)
  simp only [raiseNew]
  refine wpAny_bind (wpAny_handled ?_)
  rw [show A.in1.handled = none from hh]
  refine wpAny_bind (wpAny_pure (wpAny_throw ?_))
  refine wpAny_bind (wpAny_isInstance (T := "StopIteration") (b := true) ⟨_, Heap.get?_push_size _ rfl, rfl⟩ isSubtype_stop ?_)
  exact wpAny_pure (hQ _ fun b o e => Heap.get?_push_of_some _ (Heap.get?_push_of_some _ e))
noncomputable abbrev ciObj (fv sv : Value) (d : Bool) : Obj := { cls := .type "callable_iterator", data := .fields #[fv, sv, .bool d] }
theorem next_done {I : Addr} {Q : Option Value → Shared → Prop} (hh : A.handled = none) (ho : s.heap.get? I = some (ciObj .none .none true)) (hQ : ∀ h', (∀ b o, s.heap.get? b = some o → h'.get? b = some o) → Q none { s with heap := h' }) : wpAny (model prog w) A (pyNext (.ref I)) Q E s := by
  have hT : s.TypeIs (.ref I) "callable_iterator" := ⟨_, ho, rfl⟩
  unfold pyNext
  refine wpAny_bind (wpAny_attempt (wpAny_callSpecial?_slot (name := Str.ofString "__next__") hT slot_ci_next (wpAny_call_entry slot_ci_next hT entry_ci_next ?_ (args_ci_next _))))
  show wpAny _ _ (field (.ref I) 2 >>= _) _ _ s
  refine wpAny_bind (wpAny_field ho rfl (x := .bool true) rfl ?_)
  show wpAny _ _ (if (Value.bool true == Value.bool true) = true then _ else _) _ _ s
  rw [if_pos (by decide)]
  refine wpAny_bind (wpAny_rule (wpAny_bind ?_))
  exact stop_none hh hQ
inductive CiEnd (I f : Addr) (o : Obj) (Q : Option Value → Shared → Prop) (r : Value) (s1 : Shared) : Prop
  | mk (l : List Nat) (u : Tok) (m1 : Addr) (st1 : Tok) (self1 : Value) (e : r = .str (sOf l) u) (ho : s1.heap.get? I = some (ciObj (.ref m1) (.str (sOf []) st1) false)) (hm : s1.heap.get? m1 = some (methodObj (.ref f) self1)) (hf : s1.heap.get? f = some o)
    (q1 : l ≠ [] → Q (some r) s1) (q2 : l = [] → ∀ h', h'.get? I = some (ciObj .none .none true) → (∀ b o, b ≠ I → s1.heap.get? b = some o → h'.get? b = some o) → Q none { s1 with heap := h' })
theorem CiEnd.elim {I f : Addr} {o : Obj} {Q : Option Value → Shared → Prop} {r : Value} {s1 : Shared} {goal : Prop} (it0 : CiEnd I f o Q r s1) (k : ∀ (l : List Nat) (u : Tok) (m1 : Addr) (st1 : Tok) (self1 : Value) (e : r = .str (sOf l) u) (ho : s1.heap.get? I = some (ciObj (.ref m1) (.str (sOf []) st1) false)) (hm : s1.heap.get? m1 = some (methodObj (.ref f) self1)) (hf : s1.heap.get? f = some o) (q1 : l ≠ [] → Q (some r) s1) (q2 : l = [] → ∀ h', h'.get? I = some (ciObj .none .none true) → (∀ b o, b ≠ I → s1.heap.get? b = some o → h'.get? b = some o) → Q none { s1 with heap := h' }), goal) : goal := CiEnd.rec (motive := fun _ => goal) k it0
theorem next_ci {I m f : Addr} {self : Value} {st : Tok} {o : Obj} {fd : FuncData} {Q : Option Value → Shared → Prop} (hh : A.handled = none) (ho : s.heap.get? I = some (ciObj (.ref m) (.str (sOf []) st) false)) (hm : s.heap.get? m = some (methodObj (.ref f) self)) (hf : s.heap.get? f = some o) (hd : o.data = .func fd)
    (h : wpAny (model prog w) A.in1 (call (.ref m) []) (CiEnd I f o Q) (fun _ _ => False) s) : wpAny (model prog w) A (pyNext (.ref I)) Q E s := by
  have hT : s.TypeIs (.ref I) "callable_iterator" := ⟨_, ho, rfl⟩
  unfold pyNext
  refine wpAny_bind (wpAny_attempt (wpAny_callSpecial?_slot (name := Str.ofString "__next__") hT slot_ci_next (wpAny_call_entry slot_ci_next hT entry_ci_next ?_ (args_ci_next _))))
  show wpAny _ _ (field (.ref I) 2 >>= _) _ _ s
  refine wpAny_bind (wpAny_field ho rfl (x := .bool false) rfl ?_)
  show wpAny _ _ (if (Value.bool false == Value.bool true) = true then _ else _) _ _ s
  rw [if_neg (by decide)]
  show wpAny _ _ (field (.ref I) 0 >>= _) _ _ s
  refine wpAny_bind (wpAny_field ho rfl (x := .ref m) rfl ?_)
  refine wpAny_bind (wpAny_attempt ?_)
  unfold callOutOfASlot
  refine wpAny_bind (borrows_meth hm hf hd ?_)
  rw [if_pos rfl]
  refine callBorrowed_ok (wpAny_mono h (fun r s1 p => ?_) fun _ _ x => x.elim)
  refine p.elim fun l u m1 st1 self1 zz1 ho1 hm1 hf1 q1 q2 => ?_; (try clear p); (first | subst zz1 | cases zz1)
  show wpAny _ _ (field (.ref I) 2 >>= _) _ _ s1
  refine wpAny_bind (wpAny_field ho1 rfl (x := .bool false) rfl ?_)
  show wpAny _ _ (if (Value.bool false == Value.bool true) = true then _ else _) _ _ s1
  rw [if_neg (by decide)]
  show wpAny _ _ (field (.ref I) 1 >>= _) _ _ s1
  refine wpAny_bind (wpAny_field ho1 rfl (x := .str (sOf []) st1) rfl ?_)
  refine wpAny_bind (wpAny_holding ?_)
  refine eqGives_str _ _ _ _ _ _ _ _ _ _ ?_
  by_cases hl : l = []
  · subst hl
    have : (!(sOf [] == sOf ([] : List Nat))) = false := by simp
    rw [this, if_neg Bool.false_ne_true]
    refine wpAny_bind (wpAny_rule (wpAny_bind ?_))
    show wpAny _ _ (field (.ref I) 0 >>= _) _ _ s1
    refine wpAny_bind (wpAny_field ho1 rfl (x := .ref m1) rfl ?_)
    refine wpAny_bind (m := slotLetsGo _ _ _) ?_
    unfold slotLetsGo
    refine wpAny_bind (borrows_meth hm1 hf1 hd ?_)
    rw [if_pos rfl]
    refine wpAny_pure ?_
    refine wpAny_bind (wpAny_setField_rec ho1 (by simp) fun h2 ho2 hs2 => ?_)
    refine wpAny_bind (wpAny_setField_rec (s := { s1 with heap := h2 }) ho2 (by simp) fun h3 ho3 hs3 => ?_)
    refine wpAny_setField_rec (s := { s1 with heap := h3 }) ho3 (by simp) fun h4 ho4 hs4 => ?_
    refine stop_none (s := { s1 with heap := h4 }) hh fun h5 k5 => ?_
    exact q2 rfl h5 (k5 _ _ ho4) fun b o' hb e => k5 b o' ((hs4.2 b hb).trans ((hs3.2 b hb).trans ((hs2.2 b hb).trans e)))
  · have : (!(sOf [] == sOf l)) = true := by
      have : sOf [] ≠ sOf l := fun z => hl (sOf_inj z).symm
      simpa using this
    rw [this, if_pos rfl]
    exact wpAny_pure ⟨_, rfl, wpAny_pure (q1 hl)⟩
theorem iter_ci {I : Addr} {fv sv : Value} {d : Bool} {Q : Value → Shared → Prop} (ho : s.heap.get? I = some (ciObj fv sv d)) (h : Q (.ref I) s) : wpAny (model prog w) A (pyIter (.ref I)) Q E s := by
  have hT : s.TypeIs (.ref I) "callable_iterator" := ⟨_, ho, rfl⟩
  refine wpAny_pyIter_slot hT slot_ci_iter (wpAny_call_entry slot_ci_iter hT entry_ci_iter ?_ (args_ci_iter _))
  show wpAny _ _ (ret (.ref I)) _ _ s
  exact wpAny_pure ⟨_, rfl, "callable_iterator", _, hT, slot_ci_next.lookup, h⟩
theorem make_ci {m : Addr} {f self sv : Value} {Q : Value → Shared → Prop} (hm : s.heap.get? m = some (methodObj f self)) (h : Q (.ref s.heap.objs.size) { s with heap := s.heap.push (ciObj (.ref m) sv false) }) : wpAny (model prog w) A (call (.builtin "iter") [.ref m, sv]) Q E s := by
  have hT : s.TypeIs (.ref m) "method" := ⟨_, hm, rfl⟩
  refine Calls.call_function_entry kind_iter plain_iter entry_iter (args_iter2 _ _) ?_
  show wpAny _ _ (specialOf (.ref m) "__call__" >>= _) _ _ s
  refine wpAny_bind (wpAny_specialOf hT slot_meth_call.lookup ?_)
  show wpAny _ _ (if (some (Value.builtin "method.__call__")).isNone = true then _ else _) _ _ s
  rw [if_neg (by simp)]
  refine wpAny_bind (wpAny_rule (wpAny_bind ?_))
  exact wpAny_newObj_type (wpAny_pure ⟨_, rfl, h⟩)
end
end
section
noncomputable def CODE (C : Cx) (H : List AO) (f : Value) (vs : List AV) (Q : AV → List AO → Prop) : Prop :=
  ∀ (A : Around) (ρ φ : List Addr) (s : Shared) (xs : List Value), AOk C.d A → Rep C.B ρ φ H s → RVs C.B ρ φ s.heap vs xs →
    codeAny (model C.B.prog C.B.w) A (.call f ⟨xs, []⟩) (fun r s' => match r with | .ok (.ret v) => Post C ρ φ s Q v s' | .ok _ => False | .error e => False) s
theorem CODE.call {C : Cx} {H : List AO} {f : Value} {vs : List AV} {Q : AV → List AO → Prop} (h : CODE C H f vs Q) : CALL C H f vs Q := fun A ρ φ s xs hA R hx => call_of_code (h A ρ φ s xs hA R hx)
theorem CODE.mono {C : Cx} {H : List AO} {f : Value} {vs : List AV} {Q Q' : AV → List AO → Prop} (h : CODE C H f vs Q) (k : ∀ v H, Q v H → Q' v H) : CODE C H f vs Q' := fun A ρ φ s xs hA R hx => codeAny_mono (h A ρ φ s xs hA R hx) fun r s' z => by
  cases r with
  | error e => exact z
  | ok f => cases f with
    | ret v => refine z.elim fun ρ' φ' H' v' X R' rv q => ?_; (try clear z); exact ⟨ρ', φ', H', v', X, R', rv, k _ _ q⟩
    | _ => exact z
theorem CALL.mono {C : Cx} {H : List AO} {f : Value} {vs : List AV} {Q Q' : AV → List AO → Prop} (h : CALL C H f vs Q) (k : ∀ v H, Q v H → Q' v H) : CALL C H f vs Q' := fun A ρ φ s xs hA R hx => wpAny_mono (h A ρ φ s xs hA R hx) (fun v s' zz1 => zz1.elim fun ρ' φ' H' v' X R' rv q => ⟨ρ', φ', H', v', X, R', rv, k _ _ q⟩) fun _ _ x => x
section
variable {C : Cx} {sc : Scope} {vars : Vars} {H : List AO}
theorem CODE_fn {a : Addr} {fd : FuncData} {names : List String} {body : List Stmt} {vs : List AV} {Q : AV → List AO → Prop} (O : C.B.Ok) (hd : 0 < C.d) (F : FnOk C.B a fd names body) (hl : vs.length = names.length)
    (h : EXs C.down fd.scope (names.zip vs) H body fun f _ H1 => Q (retOf f) H1) : CODE C H (.ref a) vs Q := fun A ρ φ s xs hA R hx => code_fn O hd F hl h hA R hx
theorem CALL_iter {f : Addr} {self : AV} {l : List Nat} {Q : AV → List AO → Prop} (q : Q (.ref H.length) (H ++ [.citer (.meth f self) (.str l)])) : CALL C H (.builtin "iter") [.meth f self, .str l] Q := fun A ρ φ s xs hA R r => by
  replace r := r.inv2
  cases r with
  | mk rx ry =>
        cases rx.inv with
        | meth ho hn hx =>
          have rm := RV.meth ho hn hx
          cases ry.inv
          exact make_ci ho (post_new (C := C) R (ao := .citer (.meth f self) (.str l)) rfl (fun X => .citer (Heap.get?_push_size _ rfl) (rm.ext X) (.str _ _)) q)
theorem Rep.setk {B : Base} {ρ φ : List Addr} {s : Shared} {F : List Nat} (R : Rep B ρ φ H s) {i : Nat} {a : Addr} {h' : Heap} (ha : ρ[i]? = some a) (hi : i ∉ F) (k : ∀ b o, b ≠ a → s.heap.get? b = some o → h'.get? b = some o) (o : AO) (hl : ∃ ob, h'.get? a = some ob) (ho : ExtW ρ φ s.heap ρ φ h' → RO B ρ φ h' o a) {g : Array GenState} {d : Drawn} {t : Nat} {os : OsState}
    (hg : g = s.gens := by rfl) (hos : os = s.os := by rfl) : Ext F ρ φ s.heap ρ φ h' ∧ Rep B ρ φ (H.set i o) ⟨h', g, d, t, os⟩ := by
  have X : Ext F ρ φ s.heap ρ φ h' := ⟨List.prefix_rfl, fun b o e n => ⟨k b o (fun q => n (q ▸ List.mem_of_getElem? ha)) e, n, id⟩, fun _ q => q, fun j b hj e => by
    refine (R.alive b (.inl (List.mem_of_getElem? e))).elim fun o' q => ?_
    rw [q]
    exact k b o' (fun z => hi (by rw [nodup_inj R.nodup ha (z ▸ e)]; exact hj)) q⟩
  refine ⟨X, R.step (s' := ⟨h', g, d, t, os⟩) X.w (R.baseExt X) (by rw [List.length_set]; exact R.len) R.nodup (fun j o' b e1 e2 => ?_) (fun _ q => .inl q) R.disj (fun b q => ?_) hg hos⟩
  · by_cases q : i = j
    · subst q
      rw [ha] at e2; cases e2
      have hi : i < H.length := by rw [← R.len]; exact (List.getElem?_eq_some_iff.mp ha).1
      rw [List.getElem?_set_self hi] at e1; cases e1
      exact .inr (ho X.w)
    · rw [List.getElem?_set_ne q] at e1
      refine (R.alive b (.inl (List.mem_of_getElem? e2))).elim fun o'' w => ?_
      exact .inl ⟨e1, e2, by show h'.get? b = _; rw [w]; exact k b o'' (fun z => q (nodup_inj R.nodup ha (z ▸ e2))) w⟩
  · by_cases z : b = a
    · subst z; exact hl
    · refine (R.alive b q).elim fun ob e => ?_; exact ⟨ob, k b ob z e⟩
theorem hd1 {d : Nat} (hd : 0 < d) {A : Around} (hA : AOk d A) : AOk (d - 1) A.in1 := ⟨hA.handled, by have := hA.depth; show A.depth + 2 * (d - 1) ≤ 900; exact as11 (by assumption) (by assumption), by have := hA.units; show A.units + 1 + 10 * (d - 1) ≤ 9000; exact as10 (by assumption) (by assumption) (by rfl)⟩
theorem RV.isMeth {B : Base} {ρ φ : List Addr} {h : Heap} {f : Addr} {self : AV} {v : Value} (r : RV B ρ φ h (.meth f self) v) : ∃ a sv, v = .ref a ∧ h.get? a = some (methodObj (.ref f) sv) ∧ RV B ρ φ h self sv :=
  InvMeth.rec (motive := fun v _ => ∃ a sv, v = .ref a ∧ h.get? a = some (methodObj (.ref f) sv) ∧ RV B ρ φ h self sv) (fun ho _ hx => ⟨_, _, rfl, ho, hx⟩) (show InvMeth B ρ φ h f self v from r.inv)
theorem RO.ci {B : Base} {ρ φ : List Addr} {h : Heap} {f I : Addr} {self : AV} (r : RO B ρ φ h (.citer (.meth f self) (.str [])) I) :
    ∃ m sv st, h.get? I = some (ciObj (.ref m) (.str (sOf []) st) false) ∧ h.get? m = some (methodObj (.ref f) sv) ∧ RV B ρ φ h self sv := by
  cases r.inv with
  | citer ho hf hs =>
    refine hf.isMeth.elim fun m zz1 => zz1.elim fun sv zz2 => zz2.elim fun zz3 zz4 => zz4.elim fun hm hx => ?_; clear zz4 zz2 zz1; (first | subst zz3 | cases zz3)
    refine hs.isStr.elim fun st zz1 => ?_; (first | subst zz1 | cases zz1)
    exact ⟨m, sv, st, ho, hm, hx⟩
theorem RO.cid {B : Base} {ρ φ : List Addr} {h : Heap} {I : Addr} (r : RO B ρ φ h .cdone I) : h.get? I = some (ciObj .none .none true) := by
  cases r.inv with
  | cdone ho => exact ho
theorem RV.isRef {B : Base} {ρ φ : List Addr} {h : Heap} {i : Nat} {v : Value} (r : RV B ρ φ h (.ref i) v) : ∃ a, v = .ref a ∧ ρ[i]? = some a :=
  InvRef.rec (motive := fun v _ => ∃ a, v = .ref a ∧ ρ[i]? = some a) (fun ha => ⟨_, rfl, ha⟩) (show InvRef ρ i v from r.inv)
theorem forc_next {B : Base} {F : List Nat} {d : Nat} {H : List AO} {i : Nat} {f I : Addr} {self : AV} {Z : AV → List AO → Prop} {A : Around} {ρ φ : List Addr} {s : Shared} {Qn : Option Value → Shared → Prop} {E : Value → Shared → Prop} (O : B.Ok)
    (hf : ∃ oc od fd osl, B.K.lookup f = some ⟨oc, od, .func fd, osl⟩) (hF : i ∉ F) (hA : AOk d A) (hd : 0 < d) (R : Rep B ρ φ H s) (ha : ρ[i]? = some I) (q : H[i]? = some (.citer (.meth f self) (.str [])))
    (t : CODE (Cx.down ⟨B, F, d⟩) H (.ref f) [self] Z) (hz : ∀ r H1, Z r H1 → ∃ l, r = .str l ∧ H1[i]? = some (.citer (.meth f self) (.str [])))
    (k1 : ∀ l u ρ1 φ1 H1 s1, l ≠ [] → Ext F ρ φ s.heap ρ1 φ1 s1.heap → Rep B ρ1 φ1 H1 s1 → Z (.str l) H1 → Qn (some (.str (sOf l) u)) s1)
    (k2 : ∀ ρ1 φ1 H1 s1, Ext F ρ φ s.heap ρ1 φ1 s1.heap → Rep B ρ1 φ1 (H1.set i .cdone) s1 → Z (.str []) H1 → Qn none s1) :
    wpAny (model B.prog B.w) A (pyNext (.ref I)) Qn E s := by
  refine hf.elim fun oc zz1 => zz1.elim fun od zz2 => zz2.elim fun fd zz3 => zz3.elim fun osl hk => ?_; clear zz3 zz2 zz1; (try clear hf)
  refine ((R.obj _ _ _ q ha).ci).elim fun m zz1 => zz1.elim fun sv zz2 => zz2.elim fun st zz3 => zz3.elim fun ho zz4 => zz4.elim fun hm hx => ?_; clear zz4 zz3 zz2 zz1
  refine next_ci hA.handled ho hm (R.inK O _ _ hk) rfl (wpAny_call (method_call hm ?_))
  refine codeAny_mono (t A.in1 ρ φ s [sv] (hd1 hd hA) R (.one hx)) fun r s2 z => ?_
  cases r with
  | error e => exact z.elim
  | ok fl => cases fl with
    | ret v =>
      refine z.elim fun ρ2 φ2 H2 r2 X2 R2 rv2 z2 => ?_; (try clear z)
      refine (hz _ _ z2).elim fun l zz1 => zz1.elim fun zz2 hi2 => ?_; clear zz1; (first | subst zz2 | cases zz2)
      refine rv2.isStr.elim fun u zz1 => ?_; (first | subst zz1 | cases zz1)
      have ha2 : ρ2[i]? = some I := getρ_of X2.pre ha
      refine ((R2.obj _ _ _ hi2 ha2).ci).elim fun m2 zz1 => zz1.elim fun sv2 zz2 => zz2.elim fun st2 zz3 => zz3.elim fun ho2 zz4 => zz4.elim fun hm2 _ => ?_; clear zz4 zz3 zz2 zz1
      refine ⟨l, u, m2, st2, sv2, rfl, ho2, hm2, R2.inK O _ _ hk, fun hl => k1 l u ρ2 φ2 H2 s2 hl X2 R2 z2, fun hl h' hI hkeep => ?_⟩
      refine (R2.setk (F := F) (g := s2.gens) (d := s2.drawn) (t := s2.toks) (os := s2.os) ha2 hF hkeep .cdone ⟨_, hI⟩ fun _ => .cdone hI).elim fun X5 R5 => ?_
      exact k2 ρ2 φ2 H2 _ (X2.trans X5) R5 (hl ▸ z2)
    | _ => exact z.elim
theorem EX_forc {target iter : Expr} {body : List Stmt} {pos : Pos} {Q : AF → Vars → List AO → Prop} {i : Nat} {f : Addr} {self : AV} (O : C.B.Ok) (hd : 0 < C.d) (hfold : ∀ env x, foldedSetIterable iter env x = pure x) (ht : ∀ it v, letOwnedTupleGo target it v = pure ())
    (hf : ∃ oc od fd osl, C.B.K.lookup f = some ⟨oc, od, .func fd, osl⟩) (hF : i ∉ C.F) (Inv : Nat → Vars → List AO → Prop)
    (h : EV C sc vars H iter fun v H1 => v = .ref i ∧ ∃ n, Inv n vars H1)
    (hst : ∀ n vars H, Inv n vars H → H[i]? = some (.citer (.meth f self) (.str [])) ∨ H[i]? = some .cdone)
    (turn : ∀ n vars H, Inv n vars H → H[i]? = some (.citer (.meth f self) (.str [])) → CODE C.down H (.ref f) [self] fun r H1 => ∃ l, r = .str l ∧ H1[i]? = some (.citer (.meth f self) (.str [])) ∧ (l = [] → Q .next vars (H1.set i .cdone)) ∧
      (l ≠ [] → AS C sc vars H1 target (.str l) fun v2 H2 => EXs C sc v2 H2 body (TurnV (fun v H => ∃ m, m < n ∧ Inv m v H) Q)))
    (dn : ∀ n vars H, Inv n vars H → H[i]? = some .cdone → Q .next vars H) : EX C sc vars H (.For target iter body [] pos) Q := fun A env ρ φ s hA hE R V K => by
  refine wpAny_For (wpAny_mono (h A env ρ φ s hA hE R V) (fun c s1 p => ?_) fun _ _ x => x) (hfold env)
  obtain ⟨ρ1, φ1, H1, v1, X1, R1, rv, rfl, n, i0⟩ := p
  obtain ⟨I, rfl, ha⟩ := rv.isRef
  have hit : ∃ fv sv d, s1.heap.get? I = some (ciObj fv sv d) := (hst n vars H1 i0).elim (fun q => let ⟨_, _, _, ho, _⟩ := (R1.obj _ _ _ q ha).ci; ⟨_, _, _, ho⟩) fun q => ⟨_, _, _, (R1.obj _ _ _ q ha).cid⟩
  obtain ⟨fv, sv, d, hit⟩ := hit
  refine iter_ci hit (codeAny_mono (codeAny_forLoop (R := LEnd (PostS C env ρ φ s Q)) (LI C env ρ1 φ1 s1.heap Inv) (fun n s' l => ?_) n ⟨ExtS.refl _ _ _ _ _, R1, V.ext X1, i0⟩ (ht _)) fun r s' hr => hr.out fun _ => id)
  obtain ⟨X, Rk, Vk, inv⟩ := l
  rename_i ρk φk Hk vk
  have hak : ρk[i]? = some I := getρ_of X.pre ha
  have XS := X1.s.trans X
  have Kk : CellOwn φk env := K.ext XS
  rcases hst n vk Hk inv with q | q
  · refine forc_next (F := C.F) (d := C.d) O hf hF hA hd Rk hak q (turn n vk Hk inv q) (fun r H1 ⟨l, e, e2, _⟩ => ⟨l, e, e2⟩) (fun l u ρ2 φ2 H2 s2 hl X2 R2 z => ?_) fun ρ2 φ2 H2 s2 X2 R2 z => ?_
    · obtain ⟨l', e, _, _, q2⟩ := z
      cases e
      have K2 := Kk.ext (X2.s (env := env))
      refine wpAny_mono (q2 hl A env ρ2 φ2 s2 _ hA hE R2 (Vk.ext X2) K2.t (.str l _)) (fun _ s3 p => ?_) fun _ _ x => x.elim
      obtain ⟨ρ3, φ3, H3, v3, X3, R3, V3, q3⟩ := p
      refine wpAny_mono (q3 A env ρ3 φ3 s3 hA hE R3 V3 (K2.ext X3.all)) (fun fl s4 p => ?_) fun _ _ x => x.elim
      refine p.elim fun ρ4 φ4 H4 v4 f4 X4 R4 V4 rf q4 => ?_; (try clear p)
      have XA := (X2.s.trans X3.all).trans X4
      have := turn_end rf q4 (XS.trans XA) (X.trans XA) R4 V4
      cases fl <;> exact this
    · refine z.elim fun l' zz1 => zz1.elim fun e zz2 => zz2.elim fun _ zz3 => zz3.elim fun q1 _ => ?_; clear zz3 zz2 zz1; (try clear z)
      cases e
      exact wpAny_execs_nil ⟨ρ2, φ2, _, vk, .next, XS.trans X2.s, R2, Vk.ext X2, .next, q1 rfl⟩
  · refine next_done hA.handled (Rk.obj _ _ _ q hak).cid fun h' hkeep => wpAny_execs_nil ?_
    have X5 : Ext C.F ρk φk s'.heap ρk φk h' := ext_keeps Rk hkeep
    exact ⟨ρk, φk, Hk, vk, .next, XS.trans X5.s, Rk.keeps (s' := { s' with heap := h' }) hkeep, Vk.ext X5, .next, dn n vk Hk inv q⟩
end
end
section
theorem fn_ga : typeLookup (.type "function") "__getattribute__" = pure (some (.builtin "object.__getattribute__")) := by rw [typeLookup_type, builtinLookup_eq_fast]; kernel_rfl
theorem fn_noga : typeLookup (.type "function") "__getattr__" = pure none := by rw [typeLookup_type, builtinLookup_eq_fast]; kernel_rfl
theorem fn_noread : typeLookup (.type "function") "read" = pure none := by rw [typeLookup_type, builtinLookup_eq_fast]; kernel_rfl
theorem fn_can : (Manifest.canonical "object.__getattribute__" != "object.__getattribute__") = false := by decide +kernel
theorem slot_fn_ga : Slot "function" "__getattribute__" "object.__getattribute__" :=
  .of (owner := "object") (n := "__getattribute__") (by rw [typeLookup_type, builtinLookup_eq_fast]; kernel_rfl) (by decide +kernel) (by decide +kernel) (by decide +kernel)
    (by first | exact .inl (by decide +kernel) | exact .inr (by decide +kernel)) (by rw [isSubtype_type]; kernel_rfl)
theorem entry_ga : entryFor table "object.__getattribute__" = some Builtin.«object.__getattribute__» := entryFor_of_fast (by kernel_rfl)
theorem args_ga (a b : Value) : argsOk "object.__getattribute__" ⟨[a, b], []⟩ := by unfold argsOk; kernel_rfl
theorem slot_fn_sa : Slot "function" "__setattr__" "object.__setattr__" :=
  .of (owner := "object") (n := "__setattr__") (by rw [typeLookup_type, builtinLookup_eq_fast]; kernel_rfl) (by decide +kernel) (by decide +kernel) (by decide +kernel)
    (by first | exact .inl (by decide +kernel) | exact .inr (by decide +kernel)) (by rw [isSubtype_type]; kernel_rfl)
theorem entry_sa : entryFor table "object.__setattr__" = some Builtin.«object.__setattr__» := entryFor_of_fast (by kernel_rfl)
theorem args_sa (a b c : Value) : argsOk "object.__setattr__" ⟨[a, b, c], []⟩ := by unfold argsOk; kernel_rfl
theorem mro_fn : mroOf (.type "function") = pure [.type "function", .type "object"] := by rw [mroOf_type]; kernel_rfl
section
variable {prog : Program} {w : World} {A : Around} {E : Value → Shared → Prop} {s : Shared}
theorem fn_getattr {a dx f : Addr} {fd : FuncData} {m : Str → Option Value} {Q : Value → Shared → Prop} (ho : s.heap.get? a = some (fobjOf fd (some dx))) (hd : s.heap.Ns dx m) (hm : m (Str.ofString "read") = some (.ref f)) (h : ∀ t, Q (.ref f) { s with toks := t }) :
    wpAny (model prog w) A (getAttr (.ref a) "read") Q E s := by
  obtain ⟨hp, g, d, t, os⟩ := s
  have hT : ∀ t', (⟨hp, g, d, t', os⟩ : Shared).TypeIs (.ref a) "function" := fun _ => ⟨_, ho, rfl⟩
  unfold getAttr getAttrBy
  refine wpAny_bind (wpAny_mkText (wpAny_holding (wpAny_bind (wpAny_typeOf (hT _) (wpAny_bind (wpAny_of_eq fn_ga ?_))))))
  show wpAny _ _ (getAttrByItsOwn (.ref a) (.str "read" t) (.type "function") (.builtin "object.__getattribute__") true false) _ _ _
  unfold getAttrByItsOwn hookBefore callGetattribute boundAndCalled
  refine wpAny_bind (wpAny_of_eq (show (if onTheHeap (.type "function") then typeLookup (.type "function") "__getattr__" else pure none) = pure none from rfl) ?_)
  refine wpAny_bind (wpAny_attempt (wpAny_holding ?_))
  show wpAny _ _ (bindSpecial (.builtin "object.__getattribute__") (.ref a) >>= _) _ _ _
  refine wpAny_bind (wpAny_of_eq (slot_fn_ga.bind _) ?_)
  refine wpAny_mono (Q := fun v s' => v = .ref f ∧ ∃ t, s' = ⟨hp, g, d, t, os⟩) (E := fun _ _ => False) (wpAny_call_entry slot_fn_ga (hT _) entry_ga ?_ (args_ga _ _)) (fun v s' hv => ?_) fun _ _ z => z.elim
  · show wpAny _ _ (typeOf (.ref a) >>= _) _ _ _
    refine wpAny_bind (wpAny_typeOf (hT _) ?_)
    refine wpAny_bind (m := Builtin.ObjectAttr.find _ _ _) ?_
    unfold Builtin.ObjectAttr.find
    refine wpAny_bind (wpAny_of_eq fn_noread ?_)
    refine wpAny_bind (wpAny_pure (wpAny_bind (wpAny_pure ?_)))
    show wpAny _ _ (Builtin.ObjectAttr.ownThenClass (.ref a) "read" none none) _ _ _
    unfold Builtin.ObjectAttr.ownThenClass
    refine wpAny_bind (m := Builtin.ObjectAttr.inOwnDict _ _) ?_
    show wpAny _ _ (Builtin.ObjectAttr.ownDict a >>= _) _ _ _
    refine wpAny_bind (m := Builtin.ObjectAttr.ownDict a) ?_
    unfold Builtin.ObjectAttr.ownDict loadHead
    refine wpAny_bind (wpAny_loadPart ho ?_)
    show wpAny _ _ (instanceDict a false) _ _ _
    unfold instanceDict
    refine wpAny_bind (wpAny_loadPart ho ?_)
    show wpAny _ _ (pure (some dx)) _ _ _
    refine wpAny_pure ?_
    show wpAny _ _ (nsGet dx "read") _ _ _
    refine wpAny_nsGet hd ?_
    rw [show m "read" = some (.ref f) from hm]
    refine wpAny_bind (wpAny_rule (wpAny_pure ?_))
    exact wpAny_pure ⟨_, rfl, rfl, _, rfl⟩
  · obtain ⟨rfl, t', rfl⟩ := hv
    exact wpAny_pure (h _)
theorem fn_getmethod {a dx f : Addr} {fd : FuncData} {m : Str → Option Value} {pl : Sem Bool} {Q : Value × List Value → Shared → Prop} (ho : s.heap.get? a = some (fobjOf fd (some dx))) (hd : s.heap.Ns dx m) (hm : m (Str.ofString "read") = some (.ref f)) (h : ∀ t, Q (.ref f, []) { s with toks := t }) :
    wpAny (model prog w) A (getMethod (.ref a) "read" pl) Q E s := by
  have hT : s.TypeIs (.ref a) "function" := ⟨_, ho, rfl⟩
  unfold getMethod
  refine wpAny_bind (wpAny_specialOf hT fn_ga ?_)
  show wpAny _ _ (if (Manifest.canonical "object.__getattribute__" != "object.__getattribute__") = true then _ else _) _ _ _
  rw [fn_can, if_neg Bool.false_ne_true]
  refine wpAny_bind (wpAny_specialOf hT fn_noga ?_)
  show wpAny _ _ (specialOf (.ref a) "read" >>= _) _ _ _
  refine wpAny_bind (wpAny_specialOf hT fn_noread ?_)
  exact wpAny_bind (fn_getattr ho hd hm fun t => wpAny_pure (h t))
end
structure ReadOk (r : FnDesc) (e : Expr) : Prop where
  body : ∃ rp, r.body = [.Return (some e) rp]
  bind : ∀ (c : List (Str × Addr)) (doc pm cd ct x : Value), bindArgs (fnX r.name r.qual r.params r.body r.scope c .none .none doc pm none cd ct) ⟨[x], []⟩ = pure [(Str.ofString "size", x)]
  size : r.scope.names.lookup (Str.ofString "size") = some .local
  left : r.scope.names.lookup (Str.ofString "left") = some .free
  nocell : ∀ x ∈ r.scope.names, x.2 ≠ .cell
  only : ∀ x, r.scope.names.lookup x = some .free → x = Str.ofString "left"
  co : r.scope.isCoroutine = false
  gen : r.scope.isGenerator = false
  kind : r.scope.kind = .function
section
variable {C : Cx} {sc : Scope} {vars : Vars} {H : List AO}
theorem code_read {r : FnDesc} {e : Expr} {n : Int} {left : AV} {Q : AV → List AO → Prop} (O : C.B.Ok) (hdp : 0 < C.d) (F : ReadOk r e) (h : EV C.down r.scope [("size", .int n), ("left", left)] H e Q) {A : Around} {ρ φ : List Addr} {s : Shared} {f c : Addr} {doc pm cd ct lv : Value} {t : Tok} (hA : AOk C.d A) (R : Rep C.B ρ φ H s)
    (hf : s.heap.get? f = some (fobjOf (fnX r.name r.qual r.params r.body r.scope [("left", c)] .none .none doc pm none cd ct) none)) (hcd : s.heap.CodeRec cd r.qual) (hc : s.heap.IsCell c (some lv)) (hl : RV C.B ρ φ s.heap left lv) (hcρ : c ∉ ρ) :
    codeAny (model C.B.prog C.B.w) A (.call (.ref f) ⟨[.int n t], []⟩) (fun r s' => match r with | .ok (.ret v) => Post C ρ φ s Q v s' | .ok _ => False | .error e => False) s := by
  refine F.body.elim fun rp hb => ?_
  refine codeAny_call_function (recLimit_lt hA) hf rfl F.co F.gen rfl hcd ?_
  rw [F.bind]
  refine wpAny_pure (wpAny_newFunctionEnv F.nocell (fun x hx => by rw [List.mem_singleton] at hx; subst hx; exact F.size) (fun h1 hns hsb => ?_) F.kind)
  simp only [Option.isSome_none, Bool.false_eq_true, if_false] at hsb
  generalize hL : s.heap.objs.size = L at hns hsb ⊢
  have k1 : ∀ b o, s.heap.get? b = some o → h1.get? b = some o := fun b o e => by
    have : b ≠ L := by rw [← hL]; exact Nat.ne_of_lt (Heap.lt_size e)
    exact hsb.extBut b o this (Heap.get?_push_of_some _ e)
  have lt : ∀ {b o}, s.heap.get? b = some o → b < L := fun e => by rw [← hL]; exact Heap.lt_size e
  have al : ∀ b, b ∈ ρ ∨ b ∈ φ → b < L := fun b q => (R.alive b q).elim fun o e => lt e
  refine ⟨(R.noLimit O).keeps k1, codeAny_func ?_⟩
  generalize henv : newEnv r.scope L mainGlobals [("left", c)] (r.qual ++ ".<locals>.") (some f) cd none builtinsNs = env
  have eL : env.locals = L := by rw [← henv]; rfl
  have eC : env.cells = [(Str.ofString "left", c)] := by rw [← henv]; rfl
  have hE : EnvOk r.scope env := by rw [← henv]; exact ⟨rfl, F.kind, rfl, rfl⟩
  have W : ExtW ρ φ s.heap ρ (L :: φ) h1 := ⟨List.prefix_rfl, fun b o e n _ => ⟨k1 b o e, n.1, fun q => by
    rcases List.mem_cons.mp q with q | q
    · exact absurd (lt e) (by rw [q]; exact Nat.lt_irrefl _)
    · exact n.2 q⟩⟩
  have R1 : Rep C.B ρ (L :: φ) H { s with heap := h1, toks := s.toks + 1 } := R.step (s' := { s with heap := h1, toks := s.toks + 1 }) W (fun b o e => k1 b o (R.base b o e)) R.len R.nodup
    (fun i o b e1 e2 => .inl ⟨e1, e2, by refine (R.alive b (.inl (List.mem_of_getElem? e2))).elim fun o' q => ?_; show h1.get? b = _; rw [q]; exact k1 b o' q⟩)
    (fun b q => by
      rcases q with q | q
      · exact .inl (.inl q)
      · rcases List.mem_cons.mp q with q | q
        · exact .inr (by rw [hL, q]; exact Nat.le_refl _)
        · exact .inl (.inr q))
    (fun b q z => by
      rcases List.mem_cons.mp q with q | q
      · exact absurd (al b (.inl z)) (by rw [q]; exact Nat.lt_irrefl _)
      · exact R.disj b q z)
    (fun b q => by
      rcases q with q | q
      · refine (R.alive b (.inl q)).elim fun o e => ?_; exact ⟨o, k1 b o e⟩
      · rcases List.mem_cons.mp q with q | q
        · refine hns.elim fun o zz1 => zz1.elim fun _ zz2 => zz2.elim fun _ zz3 => zz3.elim fun e _ => ?_; clear zz3 zz2 zz1; (try clear hns); exact ⟨o, q ▸ e⟩
        · refine (R.alive b (.inr q)).elim fun o e => ?_; exact ⟨o, k1 b o e⟩)
  have V : RVars C.B ρ (L :: φ) env [("size", .int n), ("left", left)] h1 := by
    refine ⟨⟨_, by rw [eL]; exact hns, fun x v e k => ?_⟩, fun x v e k => ?_, fun x b e => ?_, by rw [eL]; exact fun q => absurd (al _ (.inl q)) (Nat.lt_irrefl _), by rw [eL]; exact List.mem_cons_self, fun x b e => ?_, fun x y b e1 e2 => ?_, fun x k => ?_⟩
    · rw [hE.kindOf] at k
      simp only [List.lookup_cons, List.lookup_nil] at e
      cases hx : x == "size" with
      | true =>
        rw [hx] at e; cases e
        have : x = "size" := by simpa using hx
        subst this
        exact ⟨.int n t, by simp, .int _ _⟩
      | false =>
        rw [hx] at e
        cases hy : x == "left" with
        | true =>
          have : x = "left" := by simpa using hy
          subst this
          rw [F.left] at k; cases k
        | false => rw [hy] at e; cases e
    · rw [hE.kindOf] at k
      have hk : r.scope.names.lookup (Str.ofString x) = some .free := by
        rcases k with k | k
        · exact absurd rfl (F.nocell _ (mem_of_lookup k))
        · exact k
      have hxl : x = "left" := ofString_inj (F.only _ hk)
      subst hxl
      simp [List.lookup_cons] at e
      subst e
      refine hc.elim fun oc zz1 => zz1.elim fun e1 e2 => ?_; clear zz1; (try clear hc)
      exact ⟨c, lv, by rw [eC]; simp, ⟨oc, k1 _ _ e1, e2⟩, hl.ext W⟩
    · rw [eC] at e
      simp only [List.lookup_cons, List.lookup_nil] at e
      split at e
      · cases e; refine hc.elim fun oc zz1 => zz1.elim fun e1 e2 => ?_; clear zz1; (try clear hc); exact ⟨_, oc, k1 _ _ e1, e2⟩
      · cases e
    · rw [eC] at e
      simp only [List.lookup_cons, List.lookup_nil] at e
      split at e
      · cases e; exact hcρ
      · cases e
    · rw [eC] at e1 e2
      simp only [List.lookup_cons, List.lookup_nil] at e1 e2
      cases q1 : x == Str.ofString "left" with
      | false => rw [q1] at e1; cases e1
      | true =>
        cases q2 : y == Str.ofString "left" with
        | false => rw [q2] at e2; cases e2
        | true => rw [beq_iff_eq.mp q1, beq_iff_eq.mp q2]
    · rw [hE.kindOf] at k
      have hk : r.scope.names.lookup x = some .free := by
        rcases k with k | k
        · exact absurd rfl (F.nocell _ (mem_of_lookup k))
        · exact k
      exact ⟨c, by rw [eC, F.only _ hk]; simp⟩
  have hA' : AOk C.down.d (A.deeper env) := ⟨hA.handled, by have := hA.depth; show A.depth + 1 + 2 * (C.d - 1) ≤ 900; exact as10 (by assumption) (by assumption) (by rfl), by have := hA.units; show A.units + 3 + 10 * (C.d - 1) ≤ 9000; exact as10 (by assumption) (by assumption) (by rfl)⟩
  rw [hb]
  refine wpAny_execs_cons (wpAny_Return_some (wpAny_mono (h (A.deeper env) env ρ (L :: φ) _ hA' hE R1 V) (fun v s2 zz1 => zz1.elim fun ρ2 φ2 H2 v2 X2 R2 rv q => ?_) fun _ _ x => x.elim))
  exact ⟨ρ2, φ2, H2, v2, ⟨X2.pre, fun b o e n => by
      refine (X2.keep b o (k1 b o e) n).elim fun q1 zz1 => zz1.elim fun q2 q3 => ?_; clear zz1
      exact ⟨q1, q2, fun m => q3 fun z => by
        rcases List.mem_cons.mp z with z | z
        · exact absurd (lt e) (by rw [z]; exact Nat.lt_irrefl _)
        · exact m z⟩, fun b q => X2.sub b (List.mem_cons_of_mem _ q),
      fun i b hi e => (X2.held i b hi e).trans (by refine (R.alive b (.inl (List.mem_of_getElem? e))).elim fun o q => ?_; rw [q]; exact k1 b o q)⟩, R2, rv, q⟩
theorem RV.isStream {B : Base} {ρ φ : List Addr} {h : Heap} {r : FnDesc} {left : AV} {v : Value} (x : RV B ρ φ h (.stream r left) v) : ∃ a L lv, v = .ref a ∧ Own ρ φ h L ∧ RV B ρ φ h left lv ∧ SF r a L lv :=
  InvStream.rec (motive := fun v _ => ∃ a L lv, v = .ref a ∧ Own ρ φ h L ∧ RV B ρ φ h left lv ∧ SF r a L lv) (fun s k hx => ⟨_, _, _, rfl, k, hx, s⟩) (show InvStream B ρ φ h r left v from x.inv)
theorem EV_read {o arg : Expr} {apos pos : Pos} {pl : Env → Sem Bool} {Q : AV → List AO → Prop} (O : C.B.Ok) (hdp : 0 < C.d) (hp : plainArgs [arg] = true)
    (hev : ∀ env, eval (.Call (.Attribute o "read" apos) [arg] [] pos) env = (do
        let ov ← eval o env
        standAt apos.atName
        let (f, first) ← holding [ov] (getMethod ov "read" (pl env))
        callWith pos f first (backTo pos (starEach [arg] env)) []))
    (h : EV C sc vars H o fun ov H1 => ∃ r left e, ov = .stream r left ∧ ReadOk r e ∧ EV C sc vars H1 arg fun a H2 => ∃ n, a = .int n ∧ EV C.down r.scope [("size", .int n), ("left", left)] H2 e Q) :
    EV C sc vars H (.Call (.Attribute o "read" apos) [arg] [] pos) Q := fun A env ρ φ s hA hE R V =>
  MethodCall_ (wpAny_mono (h A env ρ φ s hA hE R V) (fun ov s1 ⟨ρ1, φ1, H1, v1, X1, R1, rv, r, left, e, e1, F, q1⟩ => by
    subst e1
    obtain ⟨a, L, lv, rfl, k, hx, sf⟩ := rv.isStream
    obtain ⟨dx, fd, m, f, c, doc, pm, cd, ct, hes, hc, all⟩ := sf
    obtain ⟨ho, hd, _⟩ := all _ fun p hp => (k p hp).1
    refine fn_getmethod ho hd hes fun tk => ?_
    have fin := wpAny_mono (evs_ok (Q := fun vs H2 => ∃ n, vs = [.int n] ∧ EV C.down r.scope [("size", .int n), ("left", left)] H2 e Q) (env := env) (pos := pos) [arg] hp (q1.mono fun a H2 zz1 => zz1.elim fun n zz2 => zz2.elim fun e2 q2 => ⟨n, by rw [e2], q2⟩) hA hE (R1.toks tk) (V.ext X1))
      (Q' := fun vs s2 => W.FnAt f s2.heap ∧ wpAny (model C.B.prog C.B.w) A (call (.ref f) ([] ++ vs)) (Post C ρ φ s Q) noE s2) (fun vs s2 p => ?_) fun _ _ x => x
    · exact callWith_of (P := fun h => W.FnAt f h) (by rw [plain_any _ hp]; rfl) keeps_F (by
        obtain ⟨e3, e4⟩ := starEach_plain (env := env) hp
        rw [e3] at fin ⊢
        exact evalArgs_plain fin)
    · obtain ⟨ρ2, φ2, H2, vs2, X2, R2, rvs, n, rfl, q2⟩ := p
      have X2' : Ext C.F ρ1 φ1 s1.heap ρ2 φ2 s2.heap := X2
      cases rvs.inv1 with
      | mk ra =>
        refine ra.isInt.elim fun t zz1 => ?_; (first | subst zz1 | cases zz1)
        have k2 := k.ext X2'.w
        refine (all _ fun p hp => (k2 p hp).1).elim fun _ zz1 => zz1.elim fun _ zz2 => zz2.elim fun hf2 zz3 => zz3.elim fun hcr hcell => ?_; clear zz3 zz2 zz1
        refine hc.elim fun _ hcm => ?_; (try clear hc)
        have hcρ := (k2 _ hcm).2.1.1
        refine ⟨⟨_, _, _, _, hf2⟩, wpAny_call (codeAny_mono (code_read O hdp F q2 hA R2 hf2 hcr hcell (hx.ext X2'.w) hcρ) fun r s' z => ?_)⟩
        cases r with
        | error e => exact z
        | ok fl => cases fl with
          | ret v => exact z.ext (X1.trans X2')
          | _ => exact z) fun _ _ x => x) (hev env)
end
end
section
theorem refuse_fn (self : Value) : refuseLoop self "__setattr__" [.type "function", .type "object"] = pure () := by kernel_rfl
theorem dictMade_fn (a d : Addr) : dictMade (.type "function") a d = pure (some d) := by
  kernel_rfl
section
variable {prog : Program} {w : World} {A : Around} {E : Value → Shared → Prop} {s : Shared}
theorem fn_setattr {a : Addr} {fd : FuncData} {v : Value} {Q : Unit → Shared → Prop} (ho : s.heap.get? a = some (fobjOf fd none))
    (h : ∀ dx h' tk m, s.heap.objs.size ≤ dx → (∀ b o, b ≠ a → s.heap.get? b = some o → h'.get? b = some o) → h'.get? a = some (fobjOf fd (some dx)) → h'.Ns dx m → m (Str.ofString "read") = some v → Q () { s with heap := h', toks := tk }) :
    wpAny (model prog w) A (setAttr (.ref a) "read" v) Q E s := by
  obtain ⟨hp, g, d, t, os⟩ := s
  have hT : ∀ t', (⟨hp, g, d, t', os⟩ : Shared).TypeIs (.ref a) "function" := fun _ => ⟨_, ho, rfl⟩
  unfold setAttr
  refine wpAny_bind (wpAny_mkText (wpAny_bind ?_))
  unfold callSpecial?
  have e1 : typeLookup (.type "function") "__setattr__" = pure (some (.builtin "object.__setattr__")) := by rw [typeLookup_type, builtinLookup_eq_fast]; kernel_rfl
  refine wpAny_bind (wpAny_specialOf (hT _) e1 (wpAny_holding ?_))
  refine wpAny_bind (wpAny_of_eq (slot_fn_sa.bind _) ?_)
  refine wpAny_bind (wpAny_mono (E := fun _ _ => False) (wpAny_call_entry slot_fn_sa (hT _) entry_sa ?_ (args_sa _ _ _)) (fun v' s' hv => wpAny_pure (wpAny_pure hv)) fun _ _ z => z.elim)
  show wpAny _ _ (Builtin.«object.__setattr__» ⟨[.ref a, .str (Str.ofString "read") t, v], []⟩) _ _ _
  rw [osa_eq, refuse_eq]
  refine wpAny_bind (wpAny_bind (wpAny_typeOf (hT _) (wpAny_bind (wpAny_of_eq mro_fn ?_))))
  rw [refuse_fn]
  refine wpAny_pure (wpAny_bind (wpAny_typeOf (hT _) (wpAny_bind (wpAny_of_eq fn_noread (wpAny_bind (wpAny_pure ?_))))))
  show wpAny _ _ (Builtin.ObjectAttr.storeInOwnDict (.ref a) (.type "function") (.str "read" t) "read" v false) _ _ _
  unfold Builtin.ObjectAttr.storeInOwnDict
  refine wpAny_bind (show wpAny _ _ (pure ()) _ _ _ from wpAny_pure ?_)
  show wpAny _ _ (instanceDict a true >>= _) _ _ _
  refine wpAny_bind (m := instanceDict a true) ?_
  unfold instanceDict
  refine wpAny_bind (wpAny_loadPart ho ?_)
  show wpAny _ _ (alloc emptyDict >>= _) _ _ _
  refine wpAny_bind (wpAny_alloc ?_)
  have ha : a < hp.objs.size := Heap.lt_size ho
  have ho1 : (hp.push emptyDict).get? a = some (fobjOf fd none) := Heap.get?_push_of_some _ ho
  refine wpAny_bind (wpAny_update ho1 ?_)
  have hS := Heap.SameBut.update (hp.push emptyDict) a (fun o => { o with dict := some hp.objs.size })
  have ho2 : ((hp.push emptyDict).update a (fun o => { o with dict := some hp.objs.size })).get? a = some (fobjOf fd (some hp.objs.size)) := Heap.get?_update_self (fun o => { o with dict := some hp.objs.size }) ho1 rfl
  have hd2 : ((hp.push emptyDict).update a (fun o => { o with dict := some hp.objs.size })).get? hp.objs.size = some (dictOf [] 0) := (hS.2 _ (Nat.ne_of_gt ha)).trans (Heap.get?_push_size _ rfl)
  generalize (hp.push emptyDict).update a (fun o => { o with dict := some hp.objs.size }) = h2 at ho2 hd2 hS ⊢
  show wpAny _ _ (dictMade (.type "function") a hp.objs.size) _ _ _
  rw [dictMade_fn]
  refine wpAny_pure ?_
  show wpAny _ _ (Builtin.ObjectAttr.storeInDict hp.objs.size (.str "read" t) "read" v) _ _ _
  unfold Builtin.ObjectAttr.storeInDict
  refine wpAny_bind (show wpAny _ _ (pure ()) _ _ _ from wpAny_pure ?_)
  refine wpAny_bind (m := nsSet _ _ _) ?_
  unfold nsSet
  refine wpAny_bind (wpAny_bind (wpAny_askSetting (wpAny_pure (wpAny_bind (wpAny_mkText (wpAny_bind (wpAny_loadPart hd2 ?_)))))))
  dsimp only
  have c : ((!([] : List DictEntry).toArray.any (·.key.isStr (Str.ofString "read"))) && ([] : List DictEntry).toArray.any (·.refKey)) = false := by simp
  rw [aRefKeyMayBeTheName_at, c]
  refine wpAny_updatePart hd2 ?_
  have hput := putName_dict (Str.ofString "read") (PyData.keyHash w.params (Str.ofString "read")) (.str (Str.ofString "read") (t + 1)) v [] 0
  have hS3 := Heap.SameBut.update h2 hp.objs.size (Obj.putName (Str.ofString "read") (PyData.keyHash w.params (Str.ofString "read")) (.str (Str.ofString "read") (t + 1)) v)
  have hnew := Heap.get?_update_self (Obj.putName (Str.ofString "read") (PyData.keyHash w.params (Str.ofString "read")) (.str (Str.ofString "read") (t + 1)) v) hd2 (by rw [hput]; rfl)
  rw [hput] at hnew
  refine wpAny_bind (wpAny_lookBehind (o := dictOf _ _) hnew (pastItsLine_dict (by rw [List.size_toArray, sizeLine_eq]; exact Nat.le_of_ble_eq_true rfl)) ?_)
  refine wpAny_pure ⟨_, rfl, ?_⟩
  have hnd : hp.objs.size ≠ a := Nat.ne_of_gt ha
  refine h hp.objs.size _ _ (fun x => nsFind (putL (Str.ofString "read") (PyData.keyHash w.params (Str.ofString "read")) (.str (Str.ofString "read") (t + 1)) v []).toArray x) (Nat.le_refl _) (fun b o hb e => ?_) ((hS3.2 a (Ne.symm hnd)).trans ho2) ⟨_, _, _, hnew, rfl, ?_, fun _ => rfl⟩ ?_
  · have hb2 : b ≠ hp.objs.size := Nat.ne_of_lt (Heap.lt_size e)
    exact (hS3.2 b hb2).trans ((hS.2 b hb).trans (Heap.get?_push_of_some _ e))
  · intro e he
    have : e = ⟨PyData.keyHash w.params (Str.ofString "read"), .str (Str.ofString "read") (t + 1), v⟩ := by
      simp only [putL, List.mem_toArray, List.mem_singleton] at he; exact he
    exact ⟨_, _, by rw [this]⟩
  · show nsFind #[⟨PyData.keyHash w.params (Str.ofString "read"), .str (Str.ofString "read") (t + 1), v⟩] (Str.ofString "read") = some v
    unfold nsFind findBy
    simp [Value.isStr]
end
noncomputable def CodeIs (h : Heap) (c : Addr) (q : Str) : Prop := ∃ o vs t, h.get? c = some o ∧ o.cls = .type "code" ∧ o.data = .fields vs ∧ vs[1]? = some (.str q t)
section
variable {M : Model} {A : Around} {E : Value → Shared → Prop} {s : Shared} {name qual : Str} {params : Arguments} {body : List Stmt} {scope : Scope} {env : Env} {c P : Addr} {ps : Array Value} {pos : Pos} {firstLine : Nat} {mg : Str → Option Value}
  {q : Str × Addr} {Q : Value → Shared → Prop}
theorem make_nested (hcl : closureFor scope env = pure [q]) (hge0 : env.globals = mainGlobals) (hg : s.heap.Ns mainGlobals mg) (hcode : env.code = .ref c) (C : CodeHd s.heap c P) (hP : s.heap.get? P = some (tabObj ps)) (ht : TriplesOk ps.toList)
    (hnf : codeAmong pos ps.toList = none) (hgP : mainGlobals ≠ P) (hb : s.heap.BuiltinsAt mg P) (hdoc : docOf body = none)
    (h : ∀ c' ctv h' tk, Heap.ExtBut P s.heap h' → s.heap.objs.size ≤ c' → c' < h'.objs.size → CodeIs h' c' qual → h'.get? P = some (tabObj (ps ++ #[rawInt pos.line, rawInt pos.col, .ref c'])) →
      Q (.ref h'.objs.size) { s with heap := h'.push (fobjOf (fnX name qual params body scope [q] .none .none .none ((mg "__name__").getD .none) none (.ref c') ctv) none), toks := tk }) :
    wpAny M A (makeFunction name qual params (.stmts body) scope env [] [] [] pos firstLine) Q E s := by
  rw [makeFunction_eq]
  simp only [List.zip_nil_right, List.filterMap_nil, List.isEmpty_nil, if_true, pure_bind]
  refine hb.elim fun bm zz1 => zz1.elim fun ob zz2 => zz2.elim fun hbm zz3 => zz3.elim fun hne0 zz4 => zz4.elim fun _ zz5 => zz5.elim fun hneP zz6 => zz6.elim fun hbo zz7 => zz7.elim fun hcls zz8 => zz8.elim fun hdict hdata => ?_; clear zz8 zz7 zz6 zz5 zz4 zz3 zz2 zz1; (try clear hb)
  unfold makeTail
  rw [hcl, hge0]
  refine wpAny_bind (wpAny_pure ?_)
  simp only [List.isEmpty_cons, Bool.false_eq_true, if_false]
  refine wpAny_bind (wpAny_newTextTuple ?_)
  have k0 : ∀ {o : Obj} b ob, s.heap.get? b = some ob → (s.heap.push o).get? b = some ob := fun b ob e => Heap.get?_push_of_some _ e
  refine wpAny_bind (wpAny_functionCodeX hcode ((C.keeps k0).code (k0 _ _ hP) ht) ((C.keeps k0).tab (k0 _ _ hP)) hnf fun c' h' tk hx hge hlt _ hrec htb hnew => ?_)
  have hx' : Heap.ExtBut P s.heap h' := fun b o hb' e => hx b o hb' (k0 _ _ e)
  have hge' : s.heap.objs.size ≤ c' := Nat.le_trans (by rw [Heap.size_push]; exact Nat.le_add_right _ _) hge
  refine wpAny_bind (wpAny_builtinsFor ((hg.push _).extBut hx hgP) hbm hne0 (hx' _ _ hneP hbo) hcls hdict hdata ?_)
  refine wpAny_bind (wpAny_nsGet ((hg.push _).extBut hx hgP) ?_)
  have hci : CodeIs h' c' qual := by
    refine hrec.elim fun c2 zz1 => zz1.elim fun o2 zz2 => zz2.elim fun vs2 zz3 => zz3.elim fun t2 zz4 => zz4.elim fun e1 zz5 => zz5.elim fun e2 zz6 => zz6.elim fun e3 e4 => ?_; clear zz6 zz5 zz4 zz3 zz2 zz1; (try clear hrec)
    cases e1
    refine hnew.elim fun P' zz1 => zz1.elim fun _ zz2 => zz2.elim fun _ zz3 => zz3.elim fun zz4 _ => zz4.elim fun oc zz5 => zz5.elim fun vc zz6 => zz6.elim fun g1 zz7 => zz7.elim fun g2 zz8 => zz8.elim fun g3 g4 => ?_; clear zz8 zz7 zz6 zz5 zz4 zz3 zz2 zz1; (try clear hnew)
    rw [e2] at g1; cases g1
    exact ⟨o2, vs2, t2, e2, g2, e3, e4⟩
  rw [hdoc]
  exact wpAny_bind (wpAny_pure (wpAny_newObj_type (h c' _ h' tk hx' hge' hlt hci htb.2) (by size_fits)))
end
section
variable {C : Cx} {H : List AO}
theorem CALL_stream {a cA P : Addr} {fd : FuncData} {r : FnDesc} {dpos p1 lpos p2 p3 p4 p5 p6 p7 p8 : Pos} {lparams : Arguments} {lbody : Expr} {lscope : Scope} {left : AV} {i : Nat} {Q : AV → List AO → Prop} (O : C.B.Ok) (hd : 0 < C.d)
    (F : FnOk C.B a fd ["left"] [.FunctionDef "_law_read" r.params r.body [] none [] r.scope none "_law_read" dpos, .Assign [.Name "stream" p1] (.Lambda lparams lbody lscope lpos) p2, .Assign [.Attribute (.Name "stream" p3) "read" p4] (.Name "_law_read" p5) p6, .Return (some (.Name "stream" p7)) p8])
    (hcode : fd.code = .ref cA) (hC : CodeHd C.B.h0 cA P) (hname : r.name = "_law_read") (hdoc : docOf r.body = none)
    (hd0 : r.params.defaults = []) (hk0 : r.params.kw_defaults = []) (ha : ∀ env, annTrees r.params none env = []) (hdef2 : ∀ env, defaultsOf lparams env = ([], [])) (hcl2 : ∀ env, closureFor lscope env = pure [])
    (hcl : ∀ env c, EnvOk fd.scope env → env.cells.lookup (Str.ofString "left") = some c → closureFor r.scope env = pure [(Str.ofString "left", c)])
    (hq : r.qual = fd.qualname ++ ".<locals>." ++ "_law_read") (k1 : fd.scope.names.lookup (Str.ofString "left") = some .cell) (k2 : fd.scope.names.lookup (Str.ofString "_law_read") = some .local) (k3 : fd.scope.names.lookup (Str.ofString "stream") = some .local)
    (hnf : ∀ c', codeAmong lpos [rawInt dpos.line, rawInt dpos.col, .ref c'] = none) (hsw2 : ∀ env, swapsWith (.Lambda lparams lbody lscope lpos) (some (.Name "stream" p1)) p2.line env = pure false)
    (hsw3 : ∀ env, swapsWith (.Name "_law_read" p5) (some (.Attribute (.Name "stream" p3) "read" p4)) p6.line env = pure false)
    (hi : H[i]? = some (.tab0 P)) (hF : i ∉ C.F) (q : Q (.stream r left) (H.set i .opaq)) : CALL C H (.ref a) [left] Q := fun A ρ φ s xs hA R hxs => by
  refine call_of_code (code_enter O hd F rfl hA R hxs fun A' env φ' s₁ N => ?_)
  have R1 := N.rep
  have V := N.vars
  refine via fun Z done => ?_
  have hil : i < ρ.length := by rw [R1.len]; exact lt_of_get hi
  have hiρ : ρ[i]? = some ρ[i] := List.getElem?_eq_getElem hil
  obtain ⟨eP, hP1⟩ : ρ[i] = P ∧ s₁.heap.get? P = some (tabObj #[]) := by
    cases (R1.obj i _ _ hi hiρ).inv with
    | tab0 e ho => exact ⟨e, e ▸ ho⟩
  rw [eP] at hiρ
  have Pρ : P ∈ ρ := List.mem_of_getElem? hiρ
  have nb : ∀ {b o}, C.B.h0.get? b = some o → b ≠ P := fun {b o} e z => by have := R1.sep P (.inl Pρ); rw [← z, e] at this; cases this
  have gne : mainGlobals ≠ P := by obtain ⟨o, _, _, e, _⟩ := O.g; exact nb e
  obtain ⟨bm, ob, hbm, hb1, hb2, hb3, hb4, hb5, hb6⟩ := O.bimod
  have bne : bm ≠ P := nb hb3
  obtain ⟨ao, avs, afile, atf, afl, atg, ainF, atext, att, hA1, hA2⟩ := id hC
  have cne : cA ≠ P := nb hA1
  obtain ⟨m, hns, hm⟩ := V.loc
  have Lne : env.locals ≠ P := fun z => V.locn (z ▸ Pρ)
  have kof : ∀ x, env.kindOf x = fd.scope.names.lookup x := N.eo.kindOf
  obtain ⟨c, lv, hc1, hc2, hc3⟩ := V.cells "left" left (by simp) (.inl ((kof _).trans k1))
  have cP : c ≠ P := fun z => V.celln _ _ hc1 (z ▸ Pρ)
  have cL : c ≠ env.locals := fun z => by
    obtain ⟨oc, e1, e2⟩ := hc2; obtain ⟨on, _, _, e3, e4, _⟩ := hns
    rw [z, e3] at e1; cases e1; rw [e4] at e2; cases e2
  have ge0 : env.globals = mainGlobals := N.eo.globals
  have base1 := R1.base
  refine done ?_
  refine wpAny_execs_cons (nestDef_K hd0 hk0 (ha _) ?_)
  rw [show qualnameIn env "_law_read" "_law_read" = r.qual by
    unfold qualnameIn
    rw [show env.kindOf "_law_read" = some .local from (kof _).trans k2, N.qual, hq]; rfl]
  refine make_nested (hcl env c N.eo hc1) ge0 (O.g.keeps base1) (N.code.trans hcode) (hC.keeps base1) hP1 trivial rfl gne ⟨bm, ob, hbm, hb1, hb2, bne, base1 _ _ hb3, hb4, hb5, hb6⟩ hdoc fun c' ctv h2 tk2 x2 hc' hc'' hci hP2 => ?_
  have hsz2 : s₁.heap.objs.size ≤ h2.objs.size := Nat.le_of_lt (Nat.lt_of_le_of_lt hc' hc'')
  generalize ho2 : fobjOf (fnX "_law_read" r.qual r.params r.body r.scope [(Str.ofString "left", c)] Value.none Value.none Value.none ((C.B.mg "__name__").getD Value.none) none (Value.ref c') ctv) none = of2
  have kp2 : ∀ b o, b ≠ P → s₁.heap.get? b = some o → (h2.push of2).get? b = some o := fun b o hb e => Heap.get?_push_of_some _ (x2 b o hb e)
  have fr2 : of2.isFreed = false := by rw [← ho2]; rfl
  have hf2 : (h2.push of2).get? h2.objs.size = some of2 := Heap.get?_push_size _ fr2
  have hP2' : (h2.push of2).get? P = some (tabObj (#[] ++ #[rawInt dpos.line, rawInt dpos.col, .ref c'])) := Heap.get?_push_of_some _ hP2
  have lt1 : ∀ {b o}, s₁.heap.get? b = some o → b < s₁.heap.objs.size := fun e => Heap.lt_size e
  have ltL : env.locals < s₁.heap.objs.size := by obtain ⟨on, _, _, e3, _⟩ := hns; exact lt1 e3
  have fL : h2.objs.size ≠ env.locals := Nat.ne_of_gt (Nat.lt_of_lt_of_le ltL hsz2)
  have fP : h2.objs.size ≠ P := Nat.ne_of_gt (Nat.lt_of_lt_of_le (lt1 hP1) hsz2)
  refine wpAny_storeName_local ((kof _).trans k2) (m := m) (hns.extBut (x2.trans fun b o _ e => Heap.get?_push_of_some _ e) Lne) (fun h3 hns3 hS3 => ?_) (by rw [N.eo.kind']; rfl)
  have kp3 : ∀ b o, b ≠ P → b ≠ env.locals → s₁.heap.get? b = some o → h3.get? b = some o := fun b o hb hb' e => (hS3.2 b hb').trans (kp2 b o hb e)
  have hf3 : h3.get? h2.objs.size = some of2 := (hS3.2 _ fL).trans hf2
  have hP3 : h3.get? P = some (tabObj (#[] ++ #[rawInt dpos.line, rawInt dpos.col, .ref c'])) := (hS3.2 _ (Ne.symm Lne)).trans hP2'
  have c'P : c' ≠ P := Nat.ne_of_gt (Nat.lt_of_lt_of_le (lt1 hP1) hc')
  have c'L : c' ≠ env.locals := Nat.ne_of_gt (Nat.lt_of_lt_of_le ltL hc')
  have hci3 : CodeIs h3 c' r.qual := by
    obtain ⟨o, vs, t, e, r⟩ := hci
    exact ⟨o, vs, t, (hS3.2 _ c'L).trans (Heap.get?_push_of_some _ e), r⟩
  have base3 : ∀ b o, C.B.h0.get? b = some o → h3.get? b = some o := fun b o e => kp3 b o (nb e) (fun z => by
    have := R1.sep env.locals (.inr V.locφ); rw [← z, e] at this; cases this) (base1 b o e)
  refine wpAny_execs_cons (wpAny_Assign_Name (kla_eval (hdef2 _) ?_) (hsw2 _))
  refine kla_makeFunction (hcl2 _) ge0 (O.g.keeps base3) (N.code.trans hcode) (hC.keeps base3) hP3 (by simp [TriplesOk, rawInt]) (by simpa using hnf c') gne ⟨bm, ob, hbm, hb1, hb2, bne, base3 _ _ hb3, hb4, hb5, hb6⟩ fun c4 ctv4 h4 tk4 x4 hc4 hc4' hci4 hP4 => ?_
  generalize hol : kla_obj "<lambda>" (env.qual ++ "<lambda>") lparams lbody lscope [] ((C.B.mg "__name__").getD Value.none) c4 ctv4 = ol
  have hP4' : ∃ ps, (h4.push ol).get? P = some (tabObj ps) := ⟨_, Heap.get?_push_of_some _ hP4⟩
  have kp4 : ∀ b o, b ≠ P → b ≠ env.locals → s₁.heap.get? b = some o → (h4.push ol).get? b = some o := fun b o hb hb' e => Heap.get?_push_of_some _ (x4 b o hb (kp3 b o hb hb' e))
  have lt3 : ∀ {b o}, h3.get? b = some o → b < h3.objs.size := fun e => Heap.lt_size e
  have hsz4 : h3.objs.size ≤ h4.objs.size := Nat.le_of_lt (Nat.lt_of_le_of_lt hc4 hc4')
  have hf4 : (h4.push ol).get? h2.objs.size = some of2 := Heap.get?_push_of_some _ (x4 _ _ fP hf3)
  have hl4 : (h4.push ol).get? h4.objs.size = some ol := Heap.get?_push_size _ (by rw [← hol]; rfl)
  have hci4' : CodeIs (h4.push ol) c' r.qual := by
    obtain ⟨o, vs, t, e, r⟩ := hci3
    exact ⟨o, vs, t, Heap.get?_push_of_some _ (x4 _ _ c'P e), r⟩
  have ltL3 : env.locals < h3.objs.size := by obtain ⟨on, _, _, e3, _⟩ := hns3; exact lt3 e3
  have lL : h4.objs.size ≠ env.locals := Nat.ne_of_gt (Nat.lt_of_lt_of_le ltL3 hsz4)
  have lP : h4.objs.size ≠ P := Nat.ne_of_gt (Nat.lt_of_lt_of_le (lt3 hP3) hsz4)
  have lf : h4.objs.size ≠ h2.objs.size := Nat.ne_of_gt (Nat.lt_of_lt_of_le (lt3 hf3) hsz4)
  have lc : h4.objs.size ≠ c' := by obtain ⟨o, vs, t, e, r⟩ := hci3; exact Nat.ne_of_gt (Nat.lt_of_lt_of_le (lt3 e) hsz4)
  have lcell : h4.objs.size ≠ c := by obtain ⟨o, e, _⟩ := hc2; exact Nat.ne_of_gt (Nat.lt_of_lt_of_le (lt3 (kp3 _ _ cP cL e)) hsz4)
  refine wpAny_storeName_local ((kof _).trans k3) (hns3.extBut (x4.trans fun b o _ e => Heap.get?_push_of_some _ e) Lne) (fun h5 hns5 hS5 => ?_) (by rw [N.eo.kind']; rfl)
  have kp5 : ∀ b o, b ≠ P → b ≠ env.locals → s₁.heap.get? b = some o → h5.get? b = some o := fun b o hb hb' e => (hS5.2 b hb').trans (kp4 b o hb hb' e)
  have hl5 : h5.get? h4.objs.size = some ol := (hS5.2 _ lL).trans hl4
  have hf5 : h5.get? h2.objs.size = some of2 := (hS5.2 _ fL).trans hf4
  have hP5 : ∃ ps, h5.get? P = some (tabObj ps) := hP4'.elim fun ps e => ⟨ps, (hS5.2 _ (Ne.symm Lne)).trans e⟩
  have hci5 : CodeIs h5 c' r.qual := by
    refine hci4'.elim fun o zz1 => zz1.elim fun vs zz2 => zz2.elim fun t zz3 => zz3.elim fun e r => ?_; clear zz3 zz2 zz1; (try clear hci4')
    exact ⟨o, vs, t, (hS5.2 _ c'L).trans e, r⟩
  have ne1 : (Str.ofString "_law_read" : Str) ≠ Str.ofString "stream" := by decide
  have v1 : (fun x => if x = Str.ofString "stream" then some (Value.ref h4.objs.size) else if x = Str.ofString "_law_read" then some (Value.ref h2.objs.size) else m x) (Str.ofString "_law_read") = some (Value.ref h2.objs.size) := by
    show (if _ then _ else _) = _
    rw [if_neg ne1, if_pos rfl]
  have v2 : (fun x => if x = Str.ofString "stream" then some (Value.ref h4.objs.size) else if x = Str.ofString "_law_read" then some (Value.ref h2.objs.size) else m x) (Str.ofString "stream") = some (Value.ref h4.objs.size) := if_pos rfl
  generalize (fun x => if x = Str.ofString "stream" then some (Value.ref h4.objs.size) else if x = Str.ofString "_law_read" then some (Value.ref h2.objs.size) else m x) = m5 at hns5 v1 v2
  have sz5 : h4.objs.size < h5.objs.size := Heap.lt_size hl5
  rw [← hol] at hl5
  refine wpAny_execs_cons (plainObj_wpAny_Assign_Attribute (wpAny_Name (wpAny_loadName_local N.eo.kind' ((kof _).trans k2) hns5 v1 (wpAny_Name (wpAny_loadName_local N.eo.kind' ((kof _).trans k3) hns5 v2 ?_) (by decide))) (by decide)) (hsw3 _))
  refine fn_setattr hl5 fun dx h6 tk6 m6 hdx kp6 hl6 hm6 hr6 => ?_
  have kp7 : ∀ b o, b ≠ P → b ≠ env.locals → s₁.heap.get? b = some o → h6.get? b = some o := fun b o hb hb' e => kp6 b o (Nat.ne_of_lt (Nat.lt_of_lt_of_le (lt1 e) (Nat.le_trans (Nat.le_trans hsz2 (Nat.le_of_lt (lt3 hf3))) hsz4))) (kp5 b o hb hb' e)
  have hns6 : h6.Ns env.locals m5 := by
    refine hns5.elim fun on zz1 => zz1.elim fun es zz2 => zz2.elim fun ep zz3 => zz3.elim fun e1 e2 => ?_; clear zz3 zz2 zz1; (try clear hns5)
    exact ⟨on, es, ep, kp6 _ _ (Ne.symm lL) e1, e2⟩
  have hf6 : h6.get? h2.objs.size = some of2 := kp6 _ _ (Ne.symm lf) hf5
  have hP6 : ∃ ps, h6.get? P = some (tabObj ps) := hP5.elim fun ps e => ⟨ps, kp6 _ _ (Ne.symm lP) e⟩
  have hci6 : CodeIs h6 c' r.qual := by
    refine hci5.elim fun o zz1 => zz1.elim fun vs zz2 => zz2.elim fun t zz3 => zz3.elim fun e r => ?_; clear zz3 zz2 zz1; (try clear hci5)
    exact ⟨o, vs, t, kp6 _ _ (Ne.symm lc) e, r⟩
  refine wpAny_execs_cons (wpAny_Return_some (wpAny_Name (wpAny_loadName_local N.eo.kind' ((kof _).trans k3) hns6 v2 ?_) (by decide)))
  have lt0 : ∀ {b o}, s.heap.get? b = some o → b < s₁.heap.objs.size := fun e => lt1 (N.keep _ _ e)
  have kp8 : ∀ b o, b ≠ P → s.heap.get? b = some o → h6.get? b = some o := fun b o hb e => kp7 b o hb (fun z => by rw [z, N.newL] at e; cases e) (N.keep b o e)
  have al : ∀ b, b ∈ ρ ∨ b ∈ φ → b < s₁.heap.objs.size := fun b q => let ⟨o, e⟩ := R.alive b q; lt0 e
  have new : ∀ {b}, s₁.heap.objs.size ≤ b → b ∉ ρ ∧ b ∉ φ := fun {b} hb => ⟨fun q => absurd (al b (.inl q)) (Nat.not_lt.mpr hb), fun q => absurd (al b (.inr q)) (Nat.not_lt.mpr hb)⟩
  have Pφ : P ∉ φ := fun q => R.disj P q Pρ
  have W : ExtW ρ φ' s₁.heap ρ φ h6 := ⟨List.prefix_rfl, fun b o e n _ => ⟨kp7 b o (fun z => n.1 (z ▸ Pρ)) (fun z => n.2 (z ▸ V.locφ)) e, n.1, fun z => n.2 (N.sub b z)⟩⟩
  have R6 : Rep C.B ρ φ (H.set i .opaq) ⟨h6, s₁.gens, s₁.drawn, tk6, s₁.os⟩ := R1.step (s' := ⟨h6, s₁.gens, s₁.drawn, tk6, s₁.os⟩) W
    (fun b o e => kp7 b o (nb e) (fun z => by have := R1.sep env.locals (.inr V.locφ); rw [← z, e] at this; cases this) (base1 b o e)) (by rw [List.length_set]; exact R1.len) R1.nodup
    (fun j o b e1 e2 => by
      by_cases z : i = j
      · subst z
        rw [hiρ] at e2; cases e2
        rw [List.getElem?_set_self (lt_of_get hi)] at e1; cases e1
        exact .inr (.opaq hP6)
      · rw [List.getElem?_set_ne z] at e1
        have bP : b ≠ P := fun w => z (nodup_inj R1.nodup hiρ (w ▸ e2))
        obtain ⟨ob', e3⟩ := R.alive b (.inl (List.mem_of_getElem? e2))
        exact .inl ⟨e1, e2, (kp8 b ob' bP e3).trans (N.keep b ob' e3).symm⟩)
    (fun b q => .inl (q.imp_right (N.sub b))) (fun b q z => R.disj b q z)
    (fun b q => by
      by_cases z : b = P
      · subst z; let ⟨ps, e⟩ := hP6; exact ⟨_, e⟩
      · refine (R.alive b q).elim fun o e => ?_; exact ⟨o, kp8 b o z e⟩)
  have X : Ext C.F ρ φ s.heap ρ φ h6 := ⟨List.prefix_rfl, fun b o e n => ⟨kp8 b o (fun z => n (z ▸ Pρ)) e, n, id⟩, fun _ q => q, fun j b hj e => by
    have bP : b ≠ P := fun w => by
      have := nodup_inj R.nodup hiρ (w ▸ e)
      exact hF (this ▸ hj)
    refine (R.alive b (.inl (List.mem_of_getElem? e))).elim fun o e3 => ?_
    rw [e3]; exact kp8 b o bP e3⟩
  refine ⟨ρ, φ, _, _, X, R6, ?_, q⟩
  have big : s₁.heap.objs.size ≤ h2.objs.size := hsz2
  have big4 : s₁.heap.objs.size ≤ h4.objs.size := Nat.le_trans big (Nat.le_trans (Nat.le_of_lt (lt3 hf3)) hsz4)
  have big5 : s₁.heap.objs.size ≤ dx := Nat.le_trans big4 (Nat.le_trans (Nat.le_of_lt sz5) hdx)
  have hcell6 : h6.IsCell c (some lv) := by
    refine hc2.elim fun oc zz1 => zz1.elim fun e1 e2 => ?_; clear zz1; (try clear hc2)
    exact ⟨oc, kp7 _ _ cP cL e1, e2⟩
  have cnew : c ∉ ρ ∧ c ∉ φ := ⟨V.celln _ _ hc1, fun q => by
    refine (R.alive c (.inr q)).elim fun o e => ?_
    rw [N.newC _ _ hc1] at e; cases e⟩
  rw [← ho2, ← hname] at hf6
  refine hci6.elim fun oc' zz1 => zz1.elim fun vs' zz2 => zz2.elim fun t' zz3 => zz3.elim fun g1 zz4 => zz4.elim fun g2 zz5 => zz5.elim fun g3 g4 => ?_; clear zz5 zz4 zz3 zz2 zz1; (try clear hci6)
  exact .stream hl6 hm6 hr6 hf6 ⟨oc', vs', t', g1, by unfold isIt; rw [g3, g2]; rfl, g3, g4⟩ hcell6 (new big4) (new big5) (new big) cnew (new hc') (hc3.ext W)
end
end
section
theorem zip_nogetattr : typeLookup (.type "zip") "__getattr__" = pure none := by rw [typeLookup_type, builtinLookup_eq_fast]; kernel_rfl
theorem zip_nokeys : typeLookup (.type "zip") "keys" = pure none := by rw [typeLookup_type, builtinLookup_eq_fast]; kernel_rfl
theorem entry_zip_ga : entryFor table "zip.__getattribute__" = some Builtin.«object.__getattribute__» :=
  entryFor_alias (id' := "object.__getattribute__") (by kernel_rfl) (by decide +kernel) (by decide +kernel) (by kernel_rfl)
theorem meets_zip_miss (a : Addr) (vs : Array Value) (u : Tok) :
    PySem.Meets (Builtin.«object.__getattribute__» ⟨[.ref a, .str "keys" u], []⟩) (fun A R s => s.heap.get? a = some { cls := .type "zip", dict := none, data := .fields vs, slots := #[] } ∧ raisesAttr (.ref a) "keys" A R s) :=
  PySem.Meets.of_wp fun prog w A R s hs => by
    obtain ⟨hp, g, d, tk, os⟩ := s
    obtain ⟨hx, hs⟩ := hs
    have hT : (⟨hp, g, d, tk, os⟩ : Shared).TypeIs (.ref a) "zip" := ⟨_, hx, rfl⟩
    have hmiss := zip_nokeys
    have hname : (["__module__", "__name__", "__qualname__", "__doc__", "__annotations__"] : List Str).contains "keys" = false := by decide
    unfold Builtin.«object.__getattribute__»
    repeat (any_goals (first | assumption | wp_step))
    exact wpAny_raiseAttrError hs.1 hs.2 (attrMsg_fits (by decide +kernel) (by rw [sizeLine_eq]; decide +kernel))
section
variable {prog : Program} {w : World} {A : Around} {E : Value → Shared → Prop} {s : Shared}
theorem zip_no_keys {a : Addr} {vs : Array Value} {Q : Option Value → Shared → Prop} (hx : s.heap.get? a = some { cls := .type "zip", dict := none, data := .fields vs, slots := #[] }) (hA : A.handled = none)
    (h : ∀ h' tk, (∀ b o, s.heap.get? b = some o → h'.get? b = some o) → Q none { s with heap := h', toks := tk }) : wpAny (model prog w) A (getAttr? (.ref a) "keys") Q E s := by
  obtain ⟨hp, g, d, tk, os⟩ := s
  have hT : ∀ tk', (⟨hp, g, d, tk', os⟩ : Shared).TypeIs (.ref a) "zip" := fun _ => ⟨_, hx, rfl⟩
  have f1 := sub_AttributeError
  have f3 := PySem.F.slot_zip_getattribute.lookup
  have f4 := PySem.F.slot_zip_getattribute.bind (.ref a)
  have f5 := zip_nogetattr
  unfold getAttr? getAttrBy? getAttrBy
  repeat (any_goals (first | assumption | exact hT _ | ((with_reducible show wpAny _ _ (call (Value.builtin "zip.__getattribute__") _ _) _ _ _); refine call_meets PySem.F.slot_zip_getattribute (hT _) entry_zip_ga (PySem.F.args_zip_getattribute_2 _ _) (meets_zip_miss a vs _) ⟨hx, hA, fun h' tk' e hx' => ?_⟩) | wp_step))
  obtain ⟨t', u', he⟩ := hx'.there
  show wpAny _ _ (getattributeRaised _ _ _ _ _ _ _) _ _ _
  unfold getattributeRaised
  repeat (any_goals (first | assumption | wp_step))
  exact h _ _ fun b o e => hx'.keeps b o e
theorem wpAny_loadIfAlive {M : Model} {a : Addr} {Q : Option Obj → Shared → Prop} (h : Q (s.heap.get? a) s) : wpAny M A (loadIfAlive a) Q E s := fun _ _ _ => by
  unfold loadIfAlive; rw [Sem.wp_loadIfAlive]; exact h
noncomputable abbrev ZObj (h : Heap) (z TI TO : Addr) (f0 f1 : Value) : Prop := h.get? z = some { cls := .type "zip", dict := none, data := .fields #[f0, f1, .bool false, .ref TI, .ref TO], slots := #[] }
theorem zip_next_item2 {z TI TO i1 i2 l1 l2 T : Addr} {b : Bool} {k1 k2 : Nat} {xs ys : Array Value} {x y : Value} {Q : Value → Shared → Prop} (D : ZipApart z TI TO i1 i2 l1 l2)
    (hz : ZObj s.heap z TI TO (rawInt T) (.bool b)) (hT : (s.heap.get? T).isSome = true) (hTI : IsPair s.heap TI (.ref i1) (.ref i2))
    (h1 : s.heap.IsListIter i1 l1 k1) (h2 : s.heap.IsListIter i2 l2 k2) (hl1 : s.heap.IsList l1 xs) (hl2 : s.heap.IsList l2 ys) (hx : xs[k1]? = some x) (hy : ys[k2]? = some y)
    (hQ : ∀ h', ZObj h' z TI TO (rawInt T) (.bool true) → h'.IsListIter i1 l1 (k1 + 1) → h'.IsListIter i2 l2 (k2 + 1) → IsPair h' s.heap.objs.size x y →
      (∀ c o, c ≠ z → c ≠ i1 → c ≠ i2 → s.heap.get? c = some o → h'.get? c = some o) → Q (.ref s.heap.objs.size) { s with heap := h' }) :
    wpAny (model prog w) A (Builtin.«zip.__next__» ⟨[.ref z], []⟩) (fun fin s' => ∃ v, fin = .done (.ret v) ∧ Q v s') E s := by
  show wpAny _ _ (field (.ref z) 2 >>= _) _ _ _
  refine wpAny_bind (wpAny_field hz rfl (x := .bool false) rfl ?_)
  show wpAny _ _ (field (.ref z) 3 >>= _) _ _ _
  refine wpAny_bind (wpAny_field hz rfl (x := .ref TI) rfl ?_)
  refine wpAny_bind (wpAny_seqItems hTI rfl ?_)
  show wpAny _ _ (Builtin.SmallTypes.ownedTupleIsFree (.ref z) >>= _) _ _ _
  refine wpAny_bind ?_
  unfold Builtin.SmallTypes.ownedTupleIsFree
  refine wpAny_bind (wpAny_field hz rfl (x := rawInt T) rfl ?_)
  show wpAny _ _ (loadIfAlive ((T : Int).toNat) >>= _) _ _ _
  refine wpAny_bind (wpAny_loadIfAlive ?_)
  refine (Option.isSome_iff_exists.mp hT).elim fun oT hT' => ?_
  rw [show (T : Int).toNat = T from Int.toNat_natCast T, hT']
  simp only [Option.isNone_some, Bool.false_eq_true, if_false]
  refine wpAny_bind (wpAny_field hz rfl (x := .bool b) rfl ?_)
  refine wpAny_mono (Q := fun a s' => ∃ h₀, ZObj h₀ z TI TO (rawInt T) (.bool true) ∧ Heap.SameBut z s.heap h₀ ∧ a = false ∧ s' = { s with heap := h₀ }) ?_ (fun a s' zz1 => zz1.elim fun h₀ zz2 => zz2.elim fun hz₀ zz3 => zz3.elim fun hs₀ zz4 => zz4.elim fun ea es => ?_) fun _ _ x => x
  · cases b with
    | true => exact wpAny_pure ⟨s.heap, hz, ⟨rfl, fun _ _ => rfl⟩, rfl, rfl⟩
    | false =>
      refine wpAny_bind (wpAny_setField_rec hz (by simp) fun h₁ hz₁ hs₁ => wpAny_pure ⟨h₁, hz₁, hs₁, rfl, rfl⟩)
  subst ea es
  simp only [Bool.false_eq_true, if_false]
  rw [← Array.forIn_toList]
  simp only [List.forIn_cons, List.forIn_nil]
  refine wpAny_bind (wpAny_bind (wpAny_bind (wpAny_holding ?_)))
  show wpAny _ _ (Builtin.SmallTypes.nextOf (.ref i1) >>= _) _ _ _
  refine wpAny_bind (wpAny_nextOf_list_item (h1.extBut hs₀.extBut D.i1z) (hl1.extBut hs₀.extBut D.l1z) hx fun h₂ h1₂ hs₂ => wpAny_pure ?_)
  refine wpAny_pure (wpAny_bind (wpAny_bind (wpAny_holding ?_)))
  show wpAny _ _ (Builtin.SmallTypes.nextOf (.ref i2) >>= _) _ _ _
  refine wpAny_bind (wpAny_nextOf_list_item ((h2.extBut hs₀.extBut D.i2z).extBut hs₂.extBut D.i12.symm) ((hl2.extBut hs₀.extBut D.l2z).extBut hs₂.extBut D.l2i1) hy fun h₄ h2₄ hs₄ => wpAny_pure ?_)
  refine wpAny_pure (wpAny_pure ?_)
  refine wpAny_bind (wpAny_newTuple ?_ (by rw [sizeLine_eq]; exact Nat.le_of_ble_eq_true rfl))
  have hsz : h₄.objs.size = s.heap.objs.size := by rw [hs₄.1, hs₂.1, hs₀.1]
  have hz₄ : ZObj h₄ z TI TO (rawInt T) (.bool true) := hs₄.extBut _ _ D.i2z.symm (hs₂.extBut _ _ D.i1z.symm hz₀)
  have h1₄ : h₄.IsListIter i1 l1 (k1 + 1) := h1₂.extBut hs₄.extBut D.i12
  refine wpAny_pure ⟨_, rfl, ?_⟩
  show Q (.ref h₄.objs.size) _
  rw [hsz]
  refine hQ _ (Heap.get?_push_of_some _ hz₄) (h1₄.at fun o e => Heap.get?_push_of_some _ e) (h2₄.at fun o e => Heap.get?_push_of_some _ e) ?_ fun c o c1 c2 c3 e => Heap.get?_push_of_some _ (hs₄.extBut _ _ c3 (hs₂.extBut _ _ c2 (hs₀.extBut _ _ c1 e)))
  rw [← hsz]
  exact Heap.get?_push_size _ rfl
theorem zip_next_end2 {z TI TO i1 i2 l1 l2 T : Addr} {b : Bool} {k1 k2 : Nat} {xs ys : Array Value} {Q : PySem.Fin → Shared → Prop} (hh : A.handled = none) (D : ZipApart z TI TO i1 i2 l1 l2)
    (hz : ZObj s.heap z TI TO (rawInt T) (.bool b)) (hT : (s.heap.get? T).isSome = true) (hTI : IsPair s.heap TI (.ref i1) (.ref i2))
    (h1 : s.heap.IsListIter i1 l1 k1) (hl1 : s.heap.IsList l1 xs) (hend : xs[k1]? = none)
    (hE : ∀ h' e, (∀ c o, c ≠ z → c ≠ i1 → c ≠ i2 → s.heap.get? c = some o → h'.get? c = some o) → (∃ o, h'.get? e = some o ∧ o.cls = .type "StopIteration") → E (.ref e) { s with heap := h' }) :
    wpAny (model prog w) A (Builtin.«zip.__next__» ⟨[.ref z], []⟩) Q E s := by
  show wpAny _ _ (field (.ref z) 2 >>= _) _ _ _
  refine wpAny_bind (wpAny_field hz rfl (x := .bool false) rfl ?_)
  show wpAny _ _ (field (.ref z) 3 >>= _) _ _ _
  refine wpAny_bind (wpAny_field hz rfl (x := .ref TI) rfl ?_)
  refine wpAny_bind (wpAny_seqItems hTI rfl ?_)
  show wpAny _ _ (Builtin.SmallTypes.ownedTupleIsFree (.ref z) >>= _) _ _ _
  refine wpAny_bind ?_
  unfold Builtin.SmallTypes.ownedTupleIsFree
  refine wpAny_bind (wpAny_field hz rfl (x := rawInt T) rfl ?_)
  show wpAny _ _ (loadIfAlive ((T : Int).toNat) >>= _) _ _ _
  refine wpAny_bind (wpAny_loadIfAlive ?_)
  refine (Option.isSome_iff_exists.mp hT).elim fun oT hT' => ?_
  rw [show (T : Int).toNat = T from Int.toNat_natCast T, hT']
  simp only [Option.isNone_some, Bool.false_eq_true, if_false]
  refine wpAny_bind (wpAny_field hz rfl (x := .bool b) rfl ?_)
  refine wpAny_mono (Q := fun a s' => ∃ h₀, ZObj h₀ z TI TO (rawInt T) (.bool true) ∧ Heap.SameBut z s.heap h₀ ∧ a = false ∧ s' = { s with heap := h₀ }) ?_ (fun a s' zz1 => zz1.elim fun h₀ zz2 => zz2.elim fun hz₀ zz3 => zz3.elim fun hs₀ zz4 => zz4.elim fun ea es => ?_) fun _ _ x => x
  · cases b with
    | true => exact wpAny_pure ⟨s.heap, hz, ⟨rfl, fun _ _ => rfl⟩, rfl, rfl⟩
    | false =>
      refine wpAny_bind (wpAny_setField_rec hz (by simp) fun h₁ hz₁ hs₁ => wpAny_pure ⟨h₁, hz₁, hs₁, rfl, rfl⟩)
  subst ea es
  simp only [Bool.false_eq_true, if_false]
  rw [← Array.forIn_toList]
  simp only [List.forIn_cons, List.forIn_nil]
  refine wpAny_bind (wpAny_bind (wpAny_bind (wpAny_holding ?_)))
  show wpAny _ _ (Builtin.SmallTypes.nextOf (.ref i1) >>= _) _ _ _
  exact wpAny_bind (wpAny_nextOf_list_end hh (h1.extBut hs₀.extBut D.i1z) (hl1.extBut hs₀.extBut D.l1z) hend fun h₂ e hs₂ he => hE h₂ e (fun c o c1 c2 _ x => hs₂ _ _ c2 (hs₀.extBut _ _ c1 x)) he)
theorem pyNext_zip2 {z TI TO i1 i2 l1 l2 T : Addr} {b : Bool} {k1 k2 : Nat} {xs ys : Array Value} {x y : Value} {Q : Option Value → Shared → Prop} (D : ZipApart z TI TO i1 i2 l1 l2)
    (hz : ZObj s.heap z TI TO (rawInt T) (.bool b)) (hT : (s.heap.get? T).isSome = true) (hTI : IsPair s.heap TI (.ref i1) (.ref i2))
    (h1 : s.heap.IsListIter i1 l1 k1) (h2 : s.heap.IsListIter i2 l2 k2) (hl1 : s.heap.IsList l1 xs) (hl2 : s.heap.IsList l2 ys) (hx : xs[k1]? = some x) (hy : ys[k2]? = some y)
    (hQ : ∀ h', ZObj h' z TI TO (rawInt T) (.bool true) → h'.IsListIter i1 l1 (k1 + 1) → h'.IsListIter i2 l2 (k2 + 1) → IsPair h' s.heap.objs.size x y →
      (∀ c o, c ≠ z → c ≠ i1 → c ≠ i2 → s.heap.get? c = some o → h'.get? c = some o) → Q (some (.ref s.heap.objs.size)) { s with heap := h' }) :
    wpAny (model prog w) A (pyNext (.ref z)) Q E s := by
  have hTy : s.TypeIs (.ref z) "zip" := ⟨_, hz, rfl⟩
  unfold pyNext
  exact wpAny_bind (wpAny_attempt (wpAny_callSpecial?_slot (name := Str.ofString "__next__") hTy PySem.F.slot_zip_next
    (wpAny_call_entry PySem.F.slot_zip_next hTy PySem.F.entry_zip_next
      (zip_next_item2 D hz hT hTI h1 h2 hl1 hl2 hx hy fun h' a1 a2 a3 a4 a5 => wpAny_pure (hQ h' a1 a2 a3 a4 a5)) (PySem.F.args_zip_next_1 _))))
theorem pyNext_zip_end2 {z TI TO i1 i2 l1 l2 T : Addr} {b : Bool} {k1 : Nat} {xs : Array Value} {Q : Option Value → Shared → Prop} (hh : A.handled = none) (D : ZipApart z TI TO i1 i2 l1 l2)
    (hz : ZObj s.heap z TI TO (rawInt T) (.bool b)) (hT : (s.heap.get? T).isSome = true) (hTI : IsPair s.heap TI (.ref i1) (.ref i2))
    (h1 : s.heap.IsListIter i1 l1 k1) (hl1 : s.heap.IsList l1 xs) (hend : xs[k1]? = none)
    (hQ : ∀ h', (∀ c o, c ≠ z → c ≠ i1 → c ≠ i2 → s.heap.get? c = some o → h'.get? c = some o) → Q none { s with heap := h' }) : wpAny (model prog w) A (pyNext (.ref z)) Q E s := by
  have hTy : s.TypeIs (.ref z) "zip" := ⟨_, hz, rfl⟩
  unfold pyNext
  refine wpAny_bind (wpAny_attempt (wpAny_callSpecial?_slot (name := Str.ofString "__next__") hTy PySem.F.slot_zip_next
    (wpAny_call_entry PySem.F.slot_zip_next hTy PySem.F.entry_zip_next (zip_next_end2 (k2 := 0) (ys := #[]) hh D hz hT hTI h1 hl1 hend fun h' e hk he => ?_) (PySem.F.args_zip_next_1 _))))
  refine he.elim fun o zz1 => zz1.elim fun ho hc => ?_; clear zz1; (try clear he)
  refine wpAny_bind (wpAny_isInstance (T := "StopIteration") (b := true) ⟨o, ho, hc⟩ isSubtype_stop ?_)
  exact wpAny_pure (hQ _ hk)
noncomputable def ZSt (h : Heap) (z TI TO i1 i2 l1 l2 : Addr) (xs ys : Array Value) (i : Nat) : Prop :=
  ((IsZip h z TI TO .none ∧ ∃ a b, IsPair h TO a b) ∨ ∃ (T : Nat) (b : Bool), ZObj h z TI TO (rawInt T) (.bool b) ∧ (h.get? T).isSome = true) ∧
    IsPair h TI (.ref i1) (.ref i2) ∧ h.IsListIter i1 l1 i ∧ h.IsListIter i2 l2 i ∧ h.IsList l1 xs ∧ h.IsList l2 ys
theorem ZSt.sameBut {h h' : Heap} {z TI TO i1 i2 l1 l2 d : Addr} {xs ys : Array Value} {i : Nat} (S : ZSt h z TI TO i1 i2 l1 l2 xs ys i) (hs : Heap.SameBut d h h') (hd : ∃ o, h'.get? d = some o)
    (n : d ≠ z ∧ d ≠ TI ∧ d ≠ TO ∧ d ≠ i1 ∧ d ≠ i2 ∧ d ≠ l1 ∧ d ≠ l2) : ZSt h' z TI TO i1 i2 l1 l2 xs ys i := by
  refine n.elim fun n1 zz1 => zz1.elim fun n2 zz2 => zz2.elim fun n3 zz3 => zz3.elim fun n4 zz4 => zz4.elim fun n5 zz5 => zz5.elim fun n6 n7 => ?_; clear zz5 zz4 zz3 zz2 zz1; (try clear n)
  refine S.elim fun S0 zz1 => zz1.elim fun S1 zz2 => zz2.elim fun S2 zz3 => zz3.elim fun S3 zz4 => zz4.elim fun S4 S5 => ?_; clear zz4 zz3 zz2 zz1; (try clear S)
  have k : ∀ c o, d ≠ c → h.get? c = some o → h'.get? c = some o := fun c o hc e => (hs.2 c (Ne.symm hc)).trans e
  refine ⟨?_, k _ _ n2 S1, S2.at fun o e => k _ o n4 e, S3.at fun o e => k _ o n5 e, S4.at fun o e => k _ o n6 e, S5.at fun o e => k _ o n7 e⟩
  rcases S0 with ⟨q, a, b, r⟩ | ⟨T, b, q, r⟩
  · exact .inl ⟨k _ _ n1 q, a, b, k _ _ n3 r⟩
  · refine .inr ⟨T, b, k _ _ n1 q, ?_⟩
    by_cases w : d = T
    · refine hd.elim fun o e => ?_; (try clear hd); rw [← w, e]; rfl
    · rw [hs.2 T (Ne.symm w)]; exact r
theorem ZSt.next {z TI TO i1 i2 l1 l2 : Addr} {i : Nat} {xs ys : Array Value} {x y : Value} {Q : Option Value → Shared → Prop} (D : ZipApart z TI TO i1 i2 l1 l2) (S : ZSt s.heap z TI TO i1 i2 l1 l2 xs ys i) (hx : xs[i]? = some x) (hy : ys[i]? = some y)
    (hQ : ∀ h', ZSt h' z TI TO i1 i2 l1 l2 xs ys (i + 1) → IsPair h' s.heap.objs.size x y → (∀ c o, c ≠ z → c ≠ TO → c ≠ i1 → c ≠ i2 → s.heap.get? c = some o → h'.get? c = some o) → Q (some (.ref s.heap.objs.size)) { s with heap := h' }) :
    wpAny (model prog w) A (pyNext (.ref z)) Q E s := by
  refine S.elim fun S0 zz1 => zz1.elim fun S1 zz2 => zz2.elim fun S2 zz3 => zz3.elim fun S3 zz4 => zz4.elim fun S4 S5 => ?_; clear zz4 zz3 zz2 zz1; (try clear S)
  have lt : ∀ {c o}, s.heap.get? c = some o → c < s.heap.objs.size := fun e => Heap.lt_size e
  rcases S0 with ⟨q, a, b, r⟩ | ⟨T, b, q, r⟩
  · refine wpAny_pyNext_zip_item D q S1 r S2 S3 S4 S5 hx hy fun h' a1 a2 a3 a4 a5 a6 a7 => hQ h' ⟨.inr ⟨_, false, a1, by rw [a5]; rfl⟩, a7 _ _ D.TIz D.TITO D.TIi1 D.TIi2 S1, a3, a4, S4.at fun o e => a7 _ o D.l1z D.l1TO D.l1i1 D.l1i2 e, S5.at fun o e => a7 _ o D.l2z D.l2TO D.l2i1 D.l2i2 e⟩ a5 a7
  · refine pyNext_zip2 D q r S1 S2 S3 S4 S5 hx hy fun h' a1 a2 a3 a4 a5 => hQ h' ⟨.inr ⟨T, true, a1, ?_⟩, a5 _ _ D.TIz D.TIi1 D.TIi2 S1, a2, a3, S4.at fun o e => a5 _ o D.l1z D.l1i1 D.l1i2 e, S5.at fun o e => a5 _ o D.l2z D.l2i1 D.l2i2 e⟩ a4 fun c o c1 _ c3 c4 e => a5 c o c1 c3 c4 e
    refine (Option.isSome_iff_exists.mp r).elim fun oT e => ?_
    by_cases w1 : T = z
    · rw [w1, a1]; rfl
    · by_cases w2 : T = i1
      · refine a2.elim fun o zz1 => zz1.elim fun e _ => ?_; clear zz1; (try clear a2); rw [w2, e]; rfl
      · by_cases w3 : T = i2
        · refine a3.elim fun o zz1 => zz1.elim fun e _ => ?_; clear zz1; (try clear a3); rw [w3, e]; rfl
        · rw [a5 T oT w1 w2 w3 e]; rfl
theorem ZSt.done {z TI TO i1 i2 l1 l2 : Addr} {i : Nat} {xs ys : Array Value} {Q : Option Value → Shared → Prop} (hh : A.handled = none) (D : ZipApart z TI TO i1 i2 l1 l2) (S : ZSt s.heap z TI TO i1 i2 l1 l2 xs ys i) (hx : xs[i]? = none)
    (hQ : ∀ h', (∀ c o, c ≠ z → c ≠ TO → c ≠ i1 → c ≠ i2 → s.heap.get? c = some o → h'.get? c = some o) → Q none { s with heap := h' }) : wpAny (model prog w) A (pyNext (.ref z)) Q E s := by
  refine S.elim fun S0 zz1 => zz1.elim fun S1 zz2 => zz2.elim fun S2 zz3 => zz3.elim fun S3 zz4 => zz4.elim fun S4 S5 => ?_; clear zz4 zz3 zz2 zz1; (try clear S)
  rcases S0 with ⟨q, a, b, r⟩ | ⟨T, b, q, r⟩
  · exact wpAny_pyNext_zip_end hh D q S1 r S2 S3 S4 S5 (.inl hx) fun h' k => hQ h' k
  · exact pyNext_zip_end2 hh D q r S1 S2 S4 hx fun h' k => hQ h' fun c o c1 _ c3 c4 e => k c o c1 c3 c4 e
end
theorem ints_at {vs : List Value} {ns : List Int} (h : IntsAre vs ns) : ∀ {i : Nat} {v : Value} {n : Int}, vs[i]? = some v → ns[i]? = some n → ∃ t, v = .int n t := by
  induction h with
  | nil => intro i v n e; simp at e
  | cons a t h ih =>
    intro i v n e1 e2
    cases i with
    | zero => simp at e1 e2; subst e1 e2; exact ⟨_, rfl⟩
    | succ i => exact ih (by simpa using e1) (by simpa using e2)
theorem entry_upd_loop : entryFor table "dict.update.loop" = some Builtin.«dict.update.loop» := entryFor_of_fast (by kernel_rfl)
theorem plain_upd_loop : plainId "dict.update.loop" = true := by decide +kernel
section
variable {prog : Program} {w : World} {A : Around} {s : Shared} {R : Result → Shared → Prop}
theorem upd_loop {z TI TO i1 i2 l1 l2 d : Addr} {xs ys : Array Value} {ks : List Int} (hh : A.handled = none) (D : ZipApart z TI TO i1 i2 l1 l2) (nd : d ≠ z ∧ d ≠ TI ∧ d ≠ TO ∧ d ≠ i1 ∧ d ≠ i2 ∧ d ≠ l1 ∧ d ≠ l2)
    (hk : IntsAre xs.toList ks) (hxy : xs.size = ys.size) (res : Value) : ∀ (n i : Nat) (s : Shared) (kvs : List (Int × Value)), n + i = xs.size → ZSt s.heap z TI TO i1 i2 l1 l2 xs ys i → s.heap.DictOf (intKind prog w) d kvs → kvs.length + n ≤ 16777216 →
    (∀ h' tk, h'.DictOf (intKind prog w) d (merged kvs ((ks.zip ys.toList).drop i)) → (∀ c o, c ≠ z → c ≠ TO → c ≠ i1 → c ≠ i2 → c ≠ d → s.heap.get? c = some o → h'.get? c = some o) → R (.ok (.ret res)) { s with heap := h', toks := tk }) →
    codeAny (model prog w) A (.builtin "dict.update.loop" ⟨[.ref d, .ref z, rawInt i, res], []⟩) R s
  | 0, i, s, kvs, hn, S, hd, hz, h => by
    refine codeAny_builtin entry_upd_loop ?_
    rw [Around.under_plainId plain_upd_loop]
    have hx : xs[i]? = none := Array.getElem?_eq_none (by lia)
    have hl : (ks.zip ys.toList).length ≤ i := by
      have := hk.length; simp only [List.length_zip, Array.length_toList] at *; lia
    show wpAny _ _ (pyNext (.ref z) >>= _) _ _ _
    refine wpAny_bind (S.done hh D hx fun h' k => ?_)
    show wpAny _ _ (Builtin.Dict.addKeywords d [] >>= fun _ => ret res) _ _ _
    refine wpAny_bind (wpAny_pure (wpAny_pure ?_))
    refine h h' s.toks ?_ fun c o c1 c2 c3 c4 _ e => k c o c1 c2 c3 c4 e
    rw [List.drop_eq_nil_of_le hl]
    exact hd.at fun o e => k d o nd.1 nd.2.2.1 nd.2.2.2.1 nd.2.2.2.2.1 e
  | n + 1, i, s, kvs, hn, S, hd, hz, h => by
    refine codeAny_builtin entry_upd_loop ?_
    rw [Around.under_plainId plain_upd_loop]
    have hxi : i < xs.size := by lia
    have hyi : i < ys.size := by exact as19 (by assumption) (by assumption)
    have hki : i < ks.length := by have := hk.length; simp only [Array.length_toList] at this; lia
    have hx : xs[i]? = some xs[i] := Array.getElem?_eq_getElem hxi
    have hy : ys[i]? = some ys[i] := Array.getElem?_eq_getElem hyi
    refine (show ∃ t, xs[i] = .int ks[i] t from ints_at hk (by rw [Array.getElem?_toList]; exact hx) (List.getElem?_eq_getElem hki)).elim fun t ht => ?_
    have hdr : (ks.zip ys.toList).drop i = (ks[i], ys[i]) :: (ks.zip ys.toList).drop (i + 1) := by
      rw [List.drop_eq_getElem_cons (by simp only [List.length_zip, Array.length_toList]; lia)]
      simp
    show wpAny _ _ (pyNext (.ref z) >>= _) _ _ _
    refine wpAny_bind (S.next D hx hy fun h1 S1 hp k1 => ?_)
    have hd1 : h1.DictOf (intKind prog w) d kvs := hd.at fun o e => k1 d o nd.1 nd.2.2.1 nd.2.2.2.1 nd.2.2.2.2.1 e
    have dlt : d < s.heap.objs.size := by refine hd.elim fun o zz1 => zz1.elim fun _ zz2 => zz2.elim fun _ zz3 => zz3.elim fun e _ => ?_; clear zz3 zz2 zz1; (try clear hd); exact Heap.lt_size e
    refine wpAny_bind (wpAny_holding ?_)
    refine wpAny_bind (wpAny_tryCatch ?_)
    unfold Builtin.Dict.pairItems
    have hTy : (⟨h1, s.gens, s.drawn, s.toks, s.os⟩ : Shared).TypeIs (.ref s.heap.objs.size) "tuple" := ⟨_, hp, rfl⟩
    refine wpAny_bind (wpAny_typeOf hTy ?_)
    refine wpAny_bind (wpAny_seqItems hp rfl ?_)
    refine wpAny_pure ?_
    show wpAny _ _ (holding [xs[i], ys[i]] (dictSet d xs[i] ys[i])) _ _ _
    rw [ht]
    refine wpAny_holding (wpAny_dictSet_pairs (intKind_is _ _ _ _) hd1 (fun h2 hd2 hs2 => ?_) (sz_ok (by exact ar22 (by assumption))))
    refine wpAny_pure ⟨plainId_quiet plain_upd_loop _, ?_⟩
    have hlen : (stored kvs ks[i] ys[i]).length ≤ kvs.length + 1 := merged_length_le kvs [(ks[i], ys[i])]
    refine upd_loop hh D nd hk hxy res n (i + 1) _ _ (by lia) (S1.sameBut hs2 (hd2.elim fun o zz1 => zz1.elim fun _ zz2 => zz2.elim fun _ zz3 => zz3.elim fun e _ => ⟨o, e⟩) nd) hd2 (by lia) fun h' tk hd' k' => h h' tk ?_ fun c o c1 c2 c3 c4 c5 e => k' c o c1 c2 c3 c4 c5 ((hs2.2 c c5).trans (k1 c o c1 c2 c3 c4 e))
    rw [hdr]
    exact hd'
end
end
section
section
variable {prog : Program} {w : World} {A : Around} {E : Value → Shared → Prop} {s : Shared}
theorem call_dict_zip {z TI TO i1 i2 l1 l2 : Addr} {xs ys : Array Value} {ks : List Int} {Q : Value → Shared → Prop} (hh : A.handled = none) (D : ZipApart z TI TO i1 i2 l1 l2)
    (hz : IsZip s.heap z TI TO .none) (hTI : IsPair s.heap TI (.ref i1) (.ref i2)) (hTO : ∃ a b, IsPair s.heap TO a b) (h1 : s.heap.IsListIter i1 l1 0) (h2 : s.heap.IsListIter i2 l2 0) (hl1 : s.heap.IsList l1 xs) (hl2 : s.heap.IsList l2 ys)
    (hk : IntsAre xs.toList ks) (hxy : xs.size = ys.size) (hn : xs.size ≤ 16777216)
    (h : ∀ h' tk, h'.DictOf (intKind prog w) s.heap.objs.size (merged [] (ks.zip ys.toList)) → (∀ c o, c ≠ z → c ≠ TO → c ≠ i1 → c ≠ i2 → s.heap.get? c = some o → h'.get? c = some o) → Q (.ref s.heap.objs.size) { s with heap := h', toks := tk }) :
    wpAny (model prog w) A (call (.type "dict") [.ref z]) Q E s := by
  refine callType_codes (Q₁ := fun obj s₁ => obj = .ref s.heap.objs.size ∧ s₁ = { s with heap := s.heap.push { cls := .type "dict", data := .dict #[] } }) PySem.F.kt_called_dict (PySem.F.kt_typeCall_dict_1 _) PySem.F.entry_dict_init (kt_code_dict_new _ ⟨rfl, rfl⟩) ?_
  rintro obj s₁ ⟨rfl, rfl⟩
  have lt : ∀ {c o}, s.heap.get? c = some o → s.heap.objs.size ≠ c := fun e => Nat.ne_of_gt (Heap.lt_size e)
  have k0 : ∀ c o, s.heap.get? c = some o → (s.heap.push { cls := .type "dict", data := .dict #[] }).get? c = some o := fun c o e => Heap.get?_push_of_some _ e
  have hnew : (s.heap.push { cls := .type "dict", data := .dict #[] }).DictOf (intKind prog w) s.heap.objs.size [] := Heap.DictOf.new s.heap
  obtain ⟨ta, tb, hTO⟩ := hTO
  have nd : s.heap.objs.size ≠ z ∧ s.heap.objs.size ≠ TI ∧ s.heap.objs.size ≠ TO ∧ s.heap.objs.size ≠ i1 ∧ s.heap.objs.size ≠ i2 ∧ s.heap.objs.size ≠ l1 ∧ s.heap.objs.size ≠ l2 :=
    ⟨lt hz, lt hTI, lt hTO, (by obtain ⟨_, e, _⟩ := h1; exact lt e), (by refine h2.elim fun _ zz1 => zz1.elim fun e _ => ?_; clear zz1; (try clear h2); exact lt e), (by refine hl1.elim fun _ zz1 => zz1.elim fun e _ => ?_; clear zz1; (try clear hl1); exact lt e), (by refine hl2.elim fun _ zz1 => zz1.elim fun e _ => ?_; clear zz1; (try clear hl2); exact lt e)⟩
  refine ⟨hnew.typeIs, PySem.F.args_dict_init_2 _ _, ?_⟩
  unfold Builtin.«dict.__init__»
  refine wpAny_bind ?_
  unfold Builtin.Dict.selfAndRest
  refine wpAny_bind (wpAny_notOrdered_dict hnew.typeIs ?_)
  show wpAny _ _ (pure (s.heap.objs.size, [Value.ref z])) _ _ _
  refine wpAny_pure ?_
  show wpAny _ _ (Builtin.Dict.updateFrom "dict.__init__" s.heap.objs.size (.ref z) [] .none) _ _ _
  unfold Builtin.Dict.updateFrom
  refine wpAny_bind (wpAny_typeOf (T := "zip") ⟨_, k0 _ _ hz, rfl⟩ ?_)
  rw [if_pos (by decide)]
  refine wpAny_bind (zip_no_keys (k0 _ _ hz) hh fun h3 tk k3 => ?_)
  simp only [Option.isNone_none, if_true]
  refine wpAny_bind (wpAny_rule ?_)
  refine wpAny_bind (wpAny_pyIter_zip (k3 _ _ (k0 _ _ hz)) ?_)
  have k4 : ∀ c o, s.heap.get? c = some o → h3.get? c = some o := fun c o e => k3 _ _ (k0 _ _ e)
  have hd3 : h3.DictOf (intKind prog w) s.heap.objs.size [] := hnew.keep k3
  refine wpAny_pure ⟨plainId_quiet plain_upd_loop _, ?_⟩
  show codeAny _ _ (.builtin "dict.update.loop" ⟨[.ref s.heap.objs.size, .ref z, rawInt ((0 : Nat) : Int), .none], []⟩) _ _
  refine upd_loop (A := A.in1) (ks := ks) hh D nd hk hxy .none xs.size 0 ⟨h3, s.gens, s.drawn, tk, s.os⟩ [] rfl ⟨.inl ⟨k4 _ _ hz, ta, tb, k4 _ _ hTO⟩, k4 _ _ hTI, h1.at fun o e => k4 _ o e, h2.at fun o e => k4 _ o e, hl1.at fun o e => k4 _ o e, hl2.at fun o e => k4 _ o e⟩ hd3 (by simpa using hn) fun h' tk' hd' k' => ?_
  refine ⟨rfl, h h' tk' hd' fun c o c1 c2 c3 c4 e => k' c o c1 c2 c3 c4 (Ne.symm (lt e)) (k4 c o e)⟩
end
theorem mergedI_zip {B : Base} {ρ φ : List Addr} {h : Heap} : ∀ (ks : List Int) (ys : List AV) (cs : List Value) (acc : List (Int × AV)) (kvs : List (Int × Value)), ks.length = ys.length → RVs B ρ φ h ys cs →
    kvs.map (·.1) = acc.map (·.1) → RVs B ρ φ h (acc.map (·.2)) (kvs.map (·.2)) →
    (merged kvs (ks.zip cs)).map (·.1) = (mergeA acc (ks.zip ys)).map (·.1) ∧ RVs B ρ φ h ((mergeA acc (ks.zip ys)).map (·.2)) ((merged kvs (ks.zip cs)).map (·.2))
  | [], ys, cs, acc, kvs, hl, r, e1, e2 => ⟨e1, e2⟩
  | k :: ks, [], cs, acc, kvs, hl, r, e1, e2 => by simp at hl
  | k :: ks, y :: ys, cs, acc, kvs, hl, r, e1, e2 => by
    cases r with
    | cons hx hr =>
      refine (putI_ok (k := k) hx e1 e2).elim fun p1 p2 => ?_
      exact mergedI_zip ks ys _ (putA acc k y) (stored kvs k _) (by simpa using hl) hr p1 p2
section
variable {C : Cx} {sc : Scope} {vars : Vars} {H : List AO}
theorem EV_dictzip {fn zfn e1 e2 : Expr} {zpos pos : Pos} {Q : AV → List AO → Prop} (O : C.B.Ok) (hp : plainArgs [e1, e2] = true)
    (hev : ∀ env, eval (.Call fn [.Call zfn [e1, e2] [] zpos] [] pos) env = (do callWith pos (← eval fn env) [] (backTo pos (starEach [.Call zfn [e1, e2] [] zpos] env)) []))
    (hev2 : ∀ env, eval (.Call zfn [e1, e2] [] zpos) env = (do callWith zpos (← eval zfn env) [] (backTo zpos (starEach [e1, e2] env)) []))
    (h : EV C sc vars H fn fun fv H0 => fv = .val (.type "dict") ∧ EV C sc vars H0 zfn fun zv H1 => zv = .val (.type "zip") ∧ EV C sc vars H1 e1 fun a H2 => EV C sc vars H2 e2 fun b H3 =>
      ∃ (ks : List Int) (ys : List AV), IsL H3 a (ks.map .int) ∧ IsL H3 b ys ∧ ks.length = ys.length ∧ ks.length ≤ 16777216 ∧ Q (.ref H3.length) (H3 ++ [.dictI (mergeA [] (ks.zip ys))])) :
    EV C sc vars H (.Call fn [.Call zfn [e1, e2] [] zpos] [] pos) Q := fun A env ρ φ s hA hE R V => by
  rw [hev]
  refine wpAny_bind (wpAny_mono (h A env ρ φ s hA hE R V) (fun fv s0 ⟨ρ0, φ0, H0, v0, X0, R0, rv0, e, q0⟩ => ?_) fun _ _ x => x)
  subst e
  cases rv0.eqv
  have inK : ∀ {ρ φ H s}, Rep C.B ρ φ H s → C.B.K.In s.heap := fun R a o e => R.base _ _ (O.inK a o e)
  refine callWith_of (P := fun h => C.B.K.In h) (by rw [plain_any _ rfl]; rfl) (fun h X => keepOk_looks (f := .type "dict") rfl X) ?_
  refine (starEach_plain (e := .Call zfn [e1, e2] [] zpos) (r := []) (env := env) rfl).elim fun s1 s2 => ?_
  rw [s1]
  refine evalArgs_plain ?_
  refine spliced_cons (wpAny_mono (call_raw (P := fun H ρ φ s v s' => (∀ b o, s.heap.get? b = some o → s'.heap.get? b = some o) ∧ C.B.K.In s'.heap ∧ ∀ A, A.handled = none → wpAny (model C.B.prog C.B.w) A (call (.type "dict") [v]) (Post C ρ φ s Q) noE s') O hp hev2 ?_ hA hE R0 (V.ext X0)) (fun v s4 zz1 => zz1.elim fun ρ3 zz2 => zz2.elim fun φ3 zz3 => zz3.elim fun H3 zz4 => zz4.elim fun s3 zz5 => zz5.elim fun X3 zz6 => zz6.elim fun R3 zz7 => zz7.elim fun k3 zz8 => zz8.elim fun K3 p => ?_) fun _ _ x => x)
  · refine EV.mono q0 fun zv H1 zz1 => zz1.elim fun e q1 => ⟨.type "zip", e, rfl, EV.mono q1 fun a H2 q2 => EV.mono q2 fun b H3 zz1 => zz1.elim fun ks zz2 => zz2.elim fun ys zz3 => zz3.elim fun la zz4 => zz4.elim fun lb zz5 => zz5.elim fun hl zz6 => zz6.elim fun hz q => ?_⟩
    intro A ρ φ s xs hA R rx
    replace rx := rx.inv2
    cases rx with
    | mk ra rb =>
          refine (la.get R ra).elim fun l1 zz1 => zz1.elim fun vs1 zz2 => zz2.elim fun zz3 zz4 => zz4.elim fun hl1 rx1 => ?_; clear zz4 zz2 zz1; (first | subst zz3 | cases zz3)
          refine (lb.get R rb).elim fun l2 zz1 => zz1.elim fun vs2 zz2 => zz2.elim fun zz3 zz4 => zz4.elim fun hl2 rx2 => ?_; clear zz4 zz2 zz1; (first | subst zz3 | cases zz3)
          have il1 : s.heap.IsList l1 vs1 := hl1.isList
          have il2 : s.heap.IsList l2 vs2 := hl2.isList
          have a1 : l1 < s.heap.objs.size := by refine il1.elim fun _ zz1 => zz1.elim fun e _ => ?_; clear zz1; (try clear il1); exact Heap.lt_size e
          have a2 : l2 < s.heap.objs.size := by refine il2.elim fun _ zz1 => zz1.elim fun e _ => ?_; clear zz1; (try clear il2); exact Heap.lt_size e
          have n1 : vs1.size = ks.length := by have := rx1.size; simpa using this
          have n2 : vs2.size = ys.length := rx2.size
          refine call_zip_2 il1 il2 fun h1 hz1 hTI hTO hi1 hi2 hsz k1 => ⟨k1, fun c o e => k1 _ _ (inK R c o e), fun A' hh => ?_⟩
          refine call_dict_zip (s := ⟨h1, s.gens, s.drawn, s.toks, s.os⟩) (ks := ks) hh (zipApart_new a1 a2) hz1 hTI ⟨_, _, hTO⟩ hi1 hi2 (il1.at fun o e => k1 _ o e) (il2.at fun o e => k1 _ o e) rx1.ints (by lia) (by exact ar61 (by assumption) (by assumption) (by rfl)) fun h2 tk hd k2 => ?_
          have kk : ∀ c o, s.heap.get? c = some o → h2.get? c = some o := fun c o e => k2 c o
            (Nat.ne_of_lt (Nat.lt_of_lt_of_le (Heap.lt_size e) (Nat.le_add_right _ 4))) (Nat.ne_of_lt (Nat.lt_of_lt_of_le (Heap.lt_size e) (Nat.le_add_right _ 3))) (Nat.ne_of_lt (Heap.lt_size e)) (Nat.ne_of_lt (Nat.lt_of_lt_of_le (Heap.lt_size e) (Nat.le_add_right _ 1))) (k1 c o e)
          have dge : s.heap.objs.size ≤ h1.objs.size := by rw [hsz]; exact Nat.le_add_right _ 5
          refine post_newAt R dge kk (hd.elim fun o zz1 => zz1.elim fun _ zz2 => zz2.elim fun _ zz3 => zz3.elim fun e _ => ⟨o, e⟩) (fun W => ?_) q
          refine (mergedI_zip (B := C.B) (ρ := ρ ++ [h1.objs.size]) (φ := φ) (h := h2) ks ys vs2.toList [] [] hl (rx2.ext W) rfl .nil).elim fun m1 m2 => ?_
          exact .dictI hd (sys_ne O R dge) m1 m2
  · refine spliced_nil ⟨K3, ?_⟩
    exact wpAny_mono (p A hA.handled) (fun v s5 p => p.ext (X0.trans X3)) fun _ _ x => x
end
end
section
mutual
inductive LtD : Dt → Dt → Prop
  | int {i j} (h : i < j) : LtD (.int i) (.int j)
  | list {xs ys} (h : LtDs xs ys) : LtD (.list xs) (.list ys)
inductive LtDs : List Dt → List Dt → Prop
  | nil {y ys} : LtDs [] (y :: ys)
  | head {x y xs ys} (n : x ≠ y) (h : LtD x y) : LtDs (x :: xs) (y :: ys)
  | tail {x xs ys} (h : LtDs xs ys) : LtDs (x :: xs) (x :: ys)
end
theorem LtD.ne {a b : Dt} (h : LtD a b) : a ≠ b :=
  LtD.rec (motive_1 := fun a b _ => a ≠ b) (motive_2 := fun a b _ => a ≠ b) (fun h e => Int.ne_of_lt h (Dt.int.inj e)) (fun _ ih e => ih (Dt.list.inj e)) nofun (fun n _ _ e => n (List.cons.inj e).1) (fun _ ih e => ih (List.cons.inj e).2) h
theorem LtD.irrefl {d : Dt} (h : LtD d d) : False := h.ne rfl
noncomputable def LtDI : Dt → Dt → Prop
  | .int i, d => ∃ j, d = .int j ∧ i < j
  | .list xs, d => ∃ ys, d = .list ys ∧ LtDs xs ys
  | _, _ => False
noncomputable def LtDsI : List Dt → List Dt → Prop
  | [], c => c ≠ []
  | x :: xs, c => ∃ y ys, c = y :: ys ∧ ((x ≠ y ∧ LtD x y) ∨ (x = y ∧ LtDs xs ys))
theorem LtD.inv {a b : Dt} (h : LtD a b) : LtDI a b := LtD.casesOn (motive_1 := fun a b _ => LtDI a b) h (fun h => ⟨_, rfl, h⟩) (fun h => ⟨_, rfl, h⟩)
theorem LtDs.inv {a b : List Dt} (h : LtDs a b) : LtDsI a b := LtDs.casesOn (motive_2 := fun a b _ => LtDsI a b) h (List.cons_ne_nil _ _) (fun n h => ⟨_, _, rfl, .inl ⟨n, h⟩⟩) (fun h => ⟨_, _, rfl, .inr ⟨rfl, h⟩⟩)
theorem LtD.trans {a b c : Dt} (h : LtD a b) : LtD b c → LtD a c :=
  LtD.rec (motive_1 := fun a b _ => ∀ c, LtD b c → LtD a c) (motive_2 := fun a b _ => ∀ c, LtDs b c → LtDs a c) (fun h _ w => let ⟨_, e, h'⟩ := LtD.inv w; e ▸ .int (Int.lt_trans h h')) (fun _ ih _ w => let ⟨_, e, h'⟩ := LtD.inv w; e ▸ .list (ih _ h'))
    (fun _ w => let ⟨_, _, e, _⟩ := LtDs.inv w; e ▸ .nil)
    (fun n h ih _ w => let ⟨_, _, e, q⟩ := LtDs.inv w; e ▸ q.elim (fun ⟨_, h'⟩ => .head (ih _ h').ne (ih _ h')) fun ⟨e', _⟩ => .head (e' ▸ n) (e' ▸ h))
    (fun _ ih _ w => let ⟨_, _, e, q⟩ := LtDs.inv w; e ▸ q.elim (fun ⟨n', h'⟩ => .head n' h') fun ⟨e', h'⟩ => e' ▸ .tail (ih _ h')) h c
theorem LtD.asymm {a b : Dt} (h : LtD a b) (h' : LtD b a) : False := LtD.irrefl (h.trans h')
theorem LtDs_cons {x y : Dt} {xs ys : List Dt} : LtDs (x :: xs) (y :: ys) ↔ (x ≠ y ∧ LtD x y) ∨ (x = y ∧ LtDs xs ys) :=
  ⟨fun w => let ⟨_, _, e, q⟩ := LtDs.inv w; (List.cons.inj e).1 ▸ (List.cons.inj e).2 ▸ q, fun q => q.elim (fun ⟨n, h⟩ => .head n h) fun ⟨e, h⟩ => e ▸ .tail h⟩
theorem LtDs_nil {xs : List Dt} : ¬ LtDs xs [] := fun w => match xs, LtDs.inv w with
  | [], h => h rfl
  | _ :: _, ⟨_, _, e, _⟩ => nomatch e
noncomputable def LtAt (A : Around) (s : Shared) (x y : Value) (b : Bool) : Prop := ∀ (prog : Program) (w : World) (E Q : Value → Shared → Prop), Q (.bool b) s → wpAny (model prog w) A (compareOp .Lt x y) Q E s
noncomputable def lexAt (e g : Nat → Bool) (m n : Nat) : Nat → Nat → Bool
  | 0, _ => decide (m < n)
  | k + 1, i => if e i then lexAt e g m n k (i + 1) else g i
theorem entry_eq_loop : entryFor table "list.__eq__.loop" = some Builtin.«list.__eq__.loop» := entryFor_of_fast (by kernel_rfl)
theorem plain_eq_loop : plainId "list.__eq__.loop" = true := by decide +kernel
theorem lt_loop (l b : Addr) (items items2 : Array Value) (n n2 : Nat) (e g : Nat → Bool) (k : Nat) :
    ∀ i : Nat, min items.size items2.size - i = k → Meets (Builtin.«list.__eq__.loop» ⟨[.ref l, .ref b, rawInt i, rawInt 0], []⟩)
      (fun A R s => s.heap.get? l = some { cls := .type "list", dict := none, data := .seq items n, slots := #[] } ∧ s.heap.get? b = some { cls := .type "list", dict := none, data := .seq items2 n2, slots := #[] } ∧
        (∀ j (h1 : j < items.size) (h2 : j < items2.size), SeqAt.EqAt A.in1 s items[j] items2[j] (e j)) ∧ (∀ j (h1 : j < items.size) (h2 : j < items2.size), LtAt A.in1 s items[j] items2[j] (g j)) ∧
        R (.ok (.ret (.bool (lexAt e g items.size items2.size k i)))) s) := by
  induction k with
  | zero =>
    intro i hk prog w A R s h
    obtain ⟨hp, g, d, tk, os⟩ := s; obtain ⟨hl, hb, he, hg, h⟩ := h
    wp_walk using wpAny_loadPart' hl, wpAny_loadPart' hb
    rcases Nat.lt_or_ge i items.size with q | q
    · have hi1 : items[((i : Nat) : Int).toNat]? = some items[i] := Array.getElem?_eq_getElem q
      have hi2 : items2[((i : Nat) : Int).toNat]? = none := Array.getElem?_eq_none (Nat.le_of_not_lt fun w => absurd (Nat.lt_min.mpr ⟨q, w⟩) (Nat.not_lt.mpr (Nat.sub_eq_zero_iff_le.mp hk)))
      rw [hi1, hi2]
      wp_walk using wpAny_loadPart' hl, wpAny_loadPart' hb
      exact h
    · have hi1 : items[((i : Nat) : Int).toNat]? = none := Array.getElem?_eq_none q
      rw [hi1]
      wp_walk using wpAny_loadPart' hl, wpAny_loadPart' hb
      exact h
  | succ k ih =>
    intro i hk prog w A R s h
    obtain ⟨hp, gg, d, tk, os⟩ := s; obtain ⟨hl, hb, he, hg, h⟩ := h
    wp_walk using wpAny_loadPart' hl, wpAny_loadPart' hb
    have hm : i < min items.size items2.size := Nat.lt_of_sub_eq_succ hk
    have hlt : i < items.size := Nat.lt_of_lt_of_le hm (Nat.min_le_left _ _)
    have hlt2 : i < items2.size := Nat.lt_of_lt_of_le hm (Nat.min_le_right _ _)
    have hi1 : items[((i : Nat) : Int).toNat]? = some items[i] := Array.getElem?_eq_getElem hlt
    have hi2 : items2[((i : Nat) : Int).toNat]? = some items2[i] := Array.getElem?_eq_getElem hlt2
    have hc : ((i : Int) + 1) = ((i + 1 : Nat) : Int) := rfl
    rw [hi1, hi2]
    refine wpAny_bind (he i hlt hlt2 prog w _ _ ?_)
    unfold lexAt at h
    cases hb' : e i with
    | true =>
      rw [hb'] at h
      wp_walk
      rw [hc]
      exact ⟨plainId_quiet plain_eq_loop _, codeAny_builtin entry_eq_loop (by
        rw [Around.under_plainId plain_eq_loop _]
        exact ih (i + 1) (by rw [Nat.sub_succ, hk]; rfl) prog w A R _ ⟨hl, hb, he, hg, h⟩)⟩
    | false =>
      rw [hb'] at h
      wp_walk using wpAny_loadPart' hl, wpAny_loadPart' hb
      rw [hi1, hi2]
      refine wpAny_bind (show wpAny _ _ (compareOp .Lt items[i] items2[i]) _ _ _ from hg i hlt hlt2 prog w _ _ ?_)
      exact wpAny_pure h
theorem list_lt (l b : Addr) (items items2 : Array Value) (n n2 : Nat) (e g : Nat → Bool) :
    Meets (Builtin.«list.__lt__» ⟨[.ref l, .ref b], []⟩)
      (fun A R s => s.heap.get? l = some { cls := .type "list", dict := none, data := .seq items n, slots := #[] } ∧ s.heap.get? b = some { cls := .type "list", dict := none, data := .seq items2 n2, slots := #[] } ∧
        (∀ j (h1 : j < items.size) (h2 : j < items2.size), SeqAt.EqAt A.in1 s items[j] items2[j] (e j)) ∧ (∀ j (h1 : j < items.size) (h2 : j < items2.size), LtAt A.in1 s items[j] items2[j] (g j)) ∧
        R (.ok (.ret (.bool (lexAt e g items.size items2.size (min items.size items2.size) 0)))) s) := by
  intro prog w A R s h
  obtain ⟨hp, gg, d, tk, os⟩ := s; obtain ⟨hl, hb, he, hg, h⟩ := h
  have f3 := AutoSeq1.sub_list_list
  wp_walk using wpAny_loadPart' hl, wpAny_loadPart' hb
  exact ⟨plainId_quiet plain_eq_loop _, codeAny_builtin entry_eq_loop (by
    rw [Around.under_plainId plain_eq_loop _]
    exact lt_loop l b items items2 n n2 e g _ 0 rfl prog w A R _ ⟨hl, hb, he, hg, h⟩)⟩
open Classical in
theorem lex_ok (e g : Nat → Bool) : ∀ (xs ys : List Dt) (i : Nat), (∀ (j : Nat) x y, xs[j]? = some x → ys[j]? = some y → (e (i + j) = true ↔ x = y)) → (∀ (j : Nat) x y, xs[j]? = some x → ys[j]? = some y → (g (i + j) = true ↔ LtD x y)) →
    (lexAt e g (i + xs.length) (i + ys.length) (min xs.length ys.length) i = true ↔ LtDs xs ys)
  | [], [], i, _, _ => ⟨fun h => absurd (of_decide_eq_true h) (Nat.lt_irrefl _), fun h => absurd h LtDs_nil⟩
  | [], _ :: _, i, _, _ => by
    rw [show min ([] : List Dt).length _ = 0 from Nat.zero_min _]
    exact ⟨fun _ => .nil, fun _ => decide_eq_true (Nat.add_lt_add_left (Nat.succ_pos _) i)⟩
  | _ :: _, [], i, _, _ => by
    rw [show min _ ([] : List Dt).length = 0 from Nat.min_zero _]
    exact ⟨fun h => absurd (of_decide_eq_true h) (Nat.not_lt_of_le (Nat.le_add_right _ _)), fun h => absurd h LtDs_nil⟩
  | x :: xs, y :: ys, i, he, hg => by
    rw [show min (x :: xs).length (y :: ys).length = min xs.length ys.length + 1 from Nat.succ_min_succ _ _, LtDs_cons, List.length_cons, List.length_cons, show i + (xs.length + 1) = i + 1 + xs.length from Nat.add_right_comm i _ 1, show i + (ys.length + 1) = i + 1 + ys.length from Nat.add_right_comm i _ 1]
    have ih := lex_ok e g xs ys (i + 1) (fun j a b q1 q2 => by rw [Nat.add_right_comm i 1 j]; exact he (j + 1) a b q1 q2) (fun j a b q1 q2 => by rw [Nat.add_right_comm i 1 j]; exact hg (j + 1) a b q1 q2)
    have e0 := he 0 x y rfl rfl
    have g0 := hg 0 x y rfl rfl
    rw [Nat.add_zero] at e0 g0
    unfold lexAt
    by_cases z : x = y
    · rw [if_pos (e0.mpr z), ih]; exact ⟨fun h => .inr ⟨z, h⟩, fun h => h.elim (fun h => absurd z h.1) (·.2)⟩
    · rw [if_neg (fun h => z (e0.mp h)), g0]; exact ⟨fun h => .inl ⟨z, h⟩, fun h => h.elim (·.2) fun h => absurd h.1 z⟩
end
section
noncomputable def runT (n : Nat) (c : Nat → Nat → Bool) {α : Type} : KasT α → Option α
  | .ret a => some a
  | .ask i j k => if i < n ∧ j < n then runT n c (k (c i j)) else none
noncomputable def insAll (x : Nat) : List Nat → List (List Nat)
  | [] => [[x]]
  | y :: r => (x :: y :: r) :: (insAll x r).map (y :: ·)
noncomputable def perms : Nat → List (List Nat)
  | 0 => [[]]
  | n + 1 => (perms n).flatMap (insAll n)
noncomputable def sortsOk (n : Nat) (q : List Nat) : Bool := match runT n (fun i j => decide (q.getD i 0 < q.getD j 0)) (kas_sort n) with
  | some p => decide (p.toList.map (fun i => q.getD i n) = List.range n)
  | none => false
theorem sorts2 : (perms 2).all (sortsOk 2) = true := by decide +kernel
theorem sorts3 : (perms 3).all (sortsOk 3) = true := by decide +kernel
theorem sorts4 : (perms 4).all (sortsOk 4) = true := by decide +kernel
theorem sorts5 : (perms 5).all (sortsOk 5) = true := by decide +kernel
theorem sorts6 : (perms 6).all (sortsOk 6) = true := by decide +kernel
theorem mem_insAll {x : Nat} : ∀ {q : List Nat}, x ∈ q → q ∈ insAll x (q.erase x)
  | y :: r, h => by
    by_cases e : y = x
    · subst e
      rw [List.erase_cons_head]
      cases r with
      | nil => exact List.mem_cons_self
      | cons z t => exact List.mem_cons_self
    · have hr : x ∈ r := by
        rcases List.mem_cons.mp h with q | q
        · exact absurd q.symm e
        · exact q
      rw [List.erase_cons_tail (by simpa using e)]
      exact List.mem_cons_of_mem _ (List.mem_map.mpr ⟨r, mem_insAll hr, rfl⟩)
theorem nodup_le : ∀ (n : Nat) {q : List Nat}, q.Nodup → (∀ x ∈ q, x < n) → q.length ≤ n
  | 0, q, _, h => by
    cases q with
    | nil => exact Nat.le_refl _
    | cons x r => exact absurd (h x List.mem_cons_self) (Nat.not_lt_zero _)
  | n + 1, q, nd, h => by
    have := nodup_le n (q := q.erase n) (nd.erase n) fun x hx => by
      have h1 := h x (List.mem_of_mem_erase hx)
      have h2 : x ≠ n := ((List.Nodup.mem_erase_iff nd).mp hx).1
      lia
    have h3 : q.length ≤ (q.erase n).length + 1 := by rw [List.length_erase]; split <;> omega
    lia
theorem mem_perms : ∀ (n : Nat) {q : List Nat}, q.Nodup → (∀ x ∈ q, x < n) → q.length = n → q ∈ perms n
  | 0, q, _, _, hl => by rw [List.eq_nil_of_length_eq_zero hl]; exact List.mem_cons_self
  | n + 1, q, nd, h, hl => by
    have hn : n ∈ q := by
      by_cases z : n ∈ q
      · exact z
      · have := nodup_le n nd fun x hx => by
          have h1 := h x hx
          have h2 : x ≠ n := fun e => z (e ▸ hx)
          lia
        lia
    refine List.mem_flatMap.mpr ⟨q.erase n, mem_perms n (nd.erase n) (fun x hx => ?_) (by rw [List.length_erase_of_mem hn]; lia), mem_insAll hn⟩
    have h1 := h x (List.mem_of_mem_erase hx)
    have h2 : x ≠ n := ((List.Nodup.mem_erase_iff nd).mp hx).1
    lia
theorem sorts_all {n : Nat} (h2 : 2 ≤ n) (h6 : n ≤ 6) {q : List Nat} (hq : q ∈ perms n) : sortsOk n q = true := by
  have : n = 2 ∨ n = 3 ∨ n = 4 ∨ n = 5 ∨ n = 6 := by lia
  rcases this with e | e | e | e | e <;> subst e
  · exact List.all_eq_true.mp sorts2 q hq
  · exact List.all_eq_true.mp sorts3 q hq
  · exact List.all_eq_true.mp sorts4 q hq
  · exact List.all_eq_true.mp sorts5 q hq
  · exact List.all_eq_true.mp sorts6 q hq
theorem runT_congr {n : Nat} {c c' : Nat → Nat → Bool} (h : ∀ i j, i < n → j < n → c i j = c' i j) {α : Type} : ∀ t : KasT α, runT n c t = runT n c' t
  | .ret a => rfl
  | .ask i j k => by
    unfold runT
    split
    · rename_i hij
      rw [h i j hij.1 hij.2]; exact runT_congr h (k (c' i j))
    · rfl
theorem runT_wp {n : Nat} {c : Nat → Nat → Bool} {α : Type} {cmp : Nat → Nat → (Bool → Shared → Prop) → Shared → Prop} {s : Shared} (hc : ∀ i j, i < n → j < n → ∀ C : Bool → Shared → Prop, C (c i j) s → cmp i j C s) {Q : α → Shared → Prop} :
    ∀ (t : KasT α) {a : α}, runT n c t = some a → Q a s → t.kasWp cmp Q s
  | .ret b, a, e, q => by
    unfold runT at e; cases e; exact q
  | .ask i j k, a, e, q => by
    unfold runT at e
    split at e
    · rename_i hij
      exact hc i j hij.1 hij.2 _ (runT_wp hc (k (c i j)) e q)
    · cases e
section
variable {α : Type}
theorem countP_lt {p q : α → Bool} {l : List α} (h : ∀ x ∈ l, p x = true → q x = true) {a : α} (ha : a ∈ l) (hq : q a = true) (hp : p a = false) : l.countP p < l.countP q := by
  induction l with
  | nil => cases ha
  | cons x r ih =>
    have hm : r.countP p ≤ r.countP q := List.countP_mono_left fun y hy => h y (List.mem_cons_of_mem _ hy)
    have hx := h x List.mem_cons_self
    rw [List.countP_cons, List.countP_cons]
    rcases List.mem_cons.mp ha with e | e
    · subst e; rw [hq, hp]; simp; exact ar47 (by assumption)
    · have := ih (fun y hy => h y (List.mem_cons_of_mem _ hy)) e
      cases h1 : p x with
      | true => rw [hx h1]; simp; assumption
      | false => simp; split <;> omega
end
open Classical in
noncomputable def rankD (ds : List Dt) (d : Dt) : Nat := ds.countP fun e => decide (LtD e d)
structure Sortable (ds : List Dt) : Prop where
  nodup : ds.Nodup
  total : ∀ a ∈ ds, ∀ b ∈ ds, a = b ∨ LtD a b ∨ LtD b a
section
variable {ds : List Dt}
theorem rank_lt {a b : Dt} (ha : a ∈ ds) (h : LtD a b) : rankD ds a < rankD ds b :=
  countP_lt (fun x _ hx => by simp only [decide_eq_true_eq] at hx ⊢; exact hx.trans h) ha (by simpa using h) (by simpa using LtD.irrefl)
open Classical in
theorem rank_bound {a : Dt} (ha : a ∈ ds) : rankD ds a < ds.length := by
  have := countP_lt (p := fun e => decide (LtD e a)) (q := fun _ => true) (l := ds) (fun _ _ _ => rfl) ha rfl (by simpa using LtD.irrefl)
  rwa [List.countP_true] at this
theorem rank_iff (S : Sortable ds) {a b : Dt} (ha : a ∈ ds) (hb : b ∈ ds) : rankD ds a < rankD ds b ↔ LtD a b := by
  refine ⟨fun h => ?_, rank_lt ha⟩
  rcases S.total a ha b hb with e | e | e
  · subst e; lia
  · exact e
  · have := rank_lt hb e; lia
theorem rank_inj (S : Sortable ds) {a b : Dt} (ha : a ∈ ds) (hb : b ∈ ds) (h : rankD ds a = rankD ds b) : a = b := by
  rcases S.total a ha b hb with e | e | e
  · exact e
  · have := rank_lt ha e; lia
  · have := rank_lt hb e; lia
end
theorem nodup_map {α β : Type} {f : α → β} : ∀ {l : List α}, l.Nodup → (∀ a ∈ l, ∀ b ∈ l, f a = f b → a = b) → (l.map f).Nodup
  | [], _, _ => List.nodup_nil
  | x :: r, nd, h => by
    rw [List.nodup_cons] at nd
    rw [List.map_cons, List.nodup_cons]
    refine ⟨fun z => ?_, nodup_map nd.2 fun a ha b hb => h a (List.mem_cons_of_mem _ ha) b (List.mem_cons_of_mem _ hb)⟩
    refine (List.mem_map.mp z).elim fun y zz1 => zz1.elim fun hy e => ?_; clear zz1
    exact nd.1 (h y (List.mem_cons_of_mem _ hy) x List.mem_cons_self e ▸ hy)
theorem perm_of {α : Type} [BEq α] [LawfulBEq α] : ∀ {l m : List α}, l.Nodup → (∀ x ∈ l, x ∈ m) → m.length = l.length → l.Perm m
  | [], m, _, _, h => by rw [List.eq_nil_of_length_eq_zero h]
  | x :: r, m, nd, hs, h => by
    rw [List.nodup_cons] at nd
    have hx := hs x List.mem_cons_self
    refine (List.Perm.cons x (perm_of (m := m.erase x) nd.2 (fun y hy => ?_) ?_)).trans (List.perm_cons_erase hx).symm
    · have ne : y ≠ x := fun e => nd.1 (by rw [← e]; exact hy)
      exact (List.mem_erase_of_ne ne).mpr (hs y (List.mem_cons_of_mem _ hy))
    · rw [List.length_erase_of_mem hx, h]; rfl
open Classical in
theorem sorts_data {ds : List Dt} (S : Sortable ds) (h2 : 2 ≤ ds.length) (h6 : ds.length ≤ 6) (d0 : Dt) : ∃ p : Array Nat, runT ds.length (fun i j => decide (LtD (ds.getD i d0) (ds.getD j d0))) (kas_sort ds.length) = some p ∧
    p.toList.Perm (List.range ds.length) ∧ (p.toList.map fun i => ds.getD i d0).Pairwise LtD := by
  have hnd : (ds.map (rankD ds)).Nodup := nodup_map S.nodup fun a ha b hb => rank_inj S ha hb
  have hq := mem_perms ds.length hnd (fun x hx => by refine (List.mem_map.mp hx).elim fun a zz1 => zz1.elim fun ha e => ?_; clear zz1; rw [← e]; exact rank_bound ha) (by simp)
  have ok := sorts_all h2 h6 hq
  unfold sortsOk at ok
  have gq : ∀ i d, i < ds.length → (ds.map (rankD ds)).getD i d = rankD ds (ds.getD i d0) := fun i d hi => by
    rw [List.getD_eq_getElem?_getD, List.getElem?_map, List.getElem?_eq_getElem hi, List.getD_eq_getElem?_getD, List.getElem?_eq_getElem hi]; rfl
  have gm : ∀ i, i < ds.length → ds.getD i d0 ∈ ds := fun i hi => by
    rw [List.getD_eq_getElem?_getD, List.getElem?_eq_getElem hi]; exact List.getElem_mem hi
  rw [runT_congr (c' := fun i j => decide (LtD (ds.getD i d0) (ds.getD j d0))) (fun i j hi hj => by
    rw [gq i _ hi, gq j _ hj, Bool.eq_iff_iff]; simp only [decide_eq_true_eq]; exact rank_iff S (gm i hi) (gm j hj))] at ok
  generalize runT ds.length (fun i j => decide (LtD (ds.getD i d0) (ds.getD j d0))) (kas_sort ds.length) = r at ok
  cases r with
  | none => cases ok
  | some p =>
    simp only [decide_eq_true_eq] at ok
    have hb : ∀ i ∈ p.toList, i < ds.length := fun i hi => by
      have : (ds.map (rankD ds)).getD i ds.length ∈ List.range ds.length := by rw [← ok]; exact List.mem_map.mpr ⟨i, hi, rfl⟩
      rcases Nat.lt_or_ge i ds.length with z | z
      · exact z
      · rw [List.getD_eq_getElem?_getD, List.getElem?_eq_none (by simpa using z)] at this
        simp at this
    have hn : p.toList.Nodup := by
      have : (p.toList.map fun i => (ds.map (rankD ds)).getD i ds.length).Nodup := by rw [ok]; exact List.nodup_range
      exact List.Pairwise.of_map _ (fun a b h e => h (by rw [e])) this
    have hl : p.toList.length = ds.length := by have := congrArg List.length ok; simpa using this
    refine ⟨p, rfl, perm_of hn (fun x hx => List.mem_range.mpr (hb x hx)) (by simp [hl]), ?_⟩
    have hp : (p.toList.map fun i => (ds.map (rankD ds)).getD i ds.length).Pairwise (· < ·) := by rw [ok]; exact List.pairwise_lt_range
    rw [List.pairwise_map] at hp ⊢
    refine List.Pairwise.imp_of_mem (fun {a b} ha hb' h => ?_) hp
    rw [gq a _ (hb a ha), gq b _ (hb b hb')] at h
    exact (rank_iff S (gm a (hb a ha)) (gm b (hb b hb'))).mp h
theorem sorted_uniq : ∀ {a b : List Dt}, a.Perm b → a.Pairwise LtD → b.Pairwise LtD → a = b
  | [], b, p, _, _ => p.nil_eq
  | x :: r, [], p, _, _ => absurd p.length_eq (by simp)
  | x :: r, y :: t, p, ha, hb => by
    have hx : x = y := by
      have h1 : x ∈ y :: t := p.subset List.mem_cons_self
      have h2 : y ∈ x :: r := p.symm.subset List.mem_cons_self
      rcases List.mem_cons.mp h1 with q | q
      · exact q
      · rcases List.mem_cons.mp h2 with w | w
        · exact w.symm
        · exact ((List.pairwise_cons.mp hb).1 x q).asymm ((List.pairwise_cons.mp ha).1 y w) |>.elim
    subst hx
    rw [sorted_uniq ((List.perm_cons x).mp p) (List.pairwise_cons.mp ha).2 (List.pairwise_cons.mp hb).2]
end
section
section
variable {prog : Program} {w : World} {A : Around} {E : Value → Shared → Prop} {s : Shared}
noncomputable def Sorts (prog : Program) (w : World) (A : Around) (h : Heap) (vs out : List Value) : Prop :=
  (vs.length < 2 ∧ out = vs) ∨ (2 ≤ vs.length ∧ vs.length < 64 ∧ ∃ c p, runT vs.length c (kas_sort vs.length) = some p ∧ out = p.toList.map (fun i => vs.getD i Value.none) ∧
    ∀ s' : Shared, (∀ b o, h.get? b = some o → s'.heap.get? b = some o) → ∃ κ, (∀ (Q : SortKind → Shared → Prop) (E : Value → Shared → Prop), Q κ s' → wpAny (model prog w) A (keyKind' vs.toArray) Q E s') ∧
      ∀ i j, i < vs.length → j < vs.length → ∀ C : Bool → Shared → Prop, C (c i j) s' → kas_ask prog w A κ vs i j C s')
theorem list_sort_ok {a : Addr} {n : Nat} {vs out : List Value} {h0 : Heap} {P : PySem.Fin → Shared → Prop} (ho : s.heap.get? a = some (seqObj "list" vs.toArray n)) (hk : ∀ b o, h0.get? b = some o → b ≠ a ∧ s.heap.get? b = some o) (hz : out.length = vs.length) (h64 : vs.length < 64)
    (S : Sorts prog w A h0 vs out) (h : ∀ h' n', (∀ b o, b ≠ a → s.heap.get? b = some o → h'.get? b = some o) → h'.get? a = some (seqObj "list" out.toArray n') → P (.done (.ret .none)) { s with heap := h' }) :
    wpAny (model prog w) A (Builtin.«list.sort» ⟨[.ref a], []⟩) P E s := by
  have ha : a < s.heap.objs.size := Heap.lt_size ho
  have s1 := Heap.SameBut.update s.heap a (Obj.mapSeq fun _ => (#[] : Array Value))
  obtain ⟨e1, ho1⟩ : ∃ e1, (s.heap.update a (Obj.mapSeq fun _ => (#[] : Array Value))).get? a = some (seqObj "list" #[] e1) := ⟨_, get?_update_seq ho fun _ => #[]⟩
  rw [list_sort_plain]
  refine wpAny_bind (listItems_at ho rfl ?_)
  refine wpAny_bind (listUpdate_at ho rfl ?_ (by rw [List.size_toArray, sizeLine_eq]; exact ar4 (by assumption) (by rfl)) (Nat.zero_le _))
  refine wpAny_bind (seqEpoch_at ho1 rfl ?_)
  refine wpAny_bind (wpAny_newTuple ?_ (by show vs.length ≤ _; rw [sizeLine_eq]; exact ar4 (by assumption) (by rfl)))
  refine wpAny_bind (wpAny_newList ?_ (Nat.zero_le _))
  refine wpAny_holding ?_
  show wpAny (model prog w) A _ P E { s with heap := ((s.heap.update a (Obj.mapSeq fun _ => (#[] : Array Value))).push (seqObj "tuple" vs.toArray 0)).push (seqObj "list" #[] 0) }
  have k3 : ∀ b o, b ≠ a → s.heap.get? b = some o → (((s.heap.update a (Obj.mapSeq fun _ => (#[] : Array Value))).push (seqObj "tuple" vs.toArray 0)).push (seqObj "list" #[] 0)).get? b = some o := fun b o hb e =>
    Heap.get?_push_of_some _ (Heap.get?_push_of_some _ ((s1.2 b hb).trans e))
  have ho3 : (((s.heap.update a (Obj.mapSeq fun _ => (#[] : Array Value))).push (seqObj "tuple" vs.toArray 0)).push (seqObj "list" #[] 0)).get? a = some (seqObj "list" #[] e1) := Heap.get?_push_of_some _ (Heap.get?_push_of_some _ ho1)
  generalize ((s.heap.update a (Obj.mapSeq fun _ => (#[] : Array Value))).push (seqObj "tuple" vs.toArray 0)).push (seqObj "list" #[] 0) = h3 at k3 ho3 ⊢
  have fin : ∀ st : SortSt, (arrOf st).map (·.2) = out.toArray → failedOf st = none → wpAny (model prog w) A (do
      let touched := (← seqEpoch a) != e1
      Builtin.List.listUpdate (.ref a) fun _ => (arrOf st).map (·.2)
      if let some e := failedOf st then rule "list.sort.comparison-raised"; throw e
      if touched then rule "list.sort.modified"; raiseError "ValueError" "list modified during sort"
      ret .none) P E { s with heap := h3 } := by
    intro st har hf
    have s2 := Heap.SameBut.update h3 a (Obj.mapSeq fun _ => out.toArray)
    refine (show ∃ c2, (h3.update a (Obj.mapSeq fun _ => out.toArray)).get? a = some (seqObj "list" out.toArray c2) from ⟨_, get?_update_seq ho3 fun _ => out.toArray⟩).elim fun c2 hc2 => ?_
    refine wpAny_bind (seqEpoch_at ho3 rfl ?_)
    rw [har]
    refine wpAny_bind (listUpdate_at ho3 rfl ?_ (Nat.zero_le _) (by rw [List.size_toArray, sizeLine_eq]; exact as15 (by assumption) (by assumption) (by rfl)))
    rw [hf]
    simp only [bne_self_eq_false, Bool.false_eq_true, if_false]
    exact wpAny_pure (h _ c2 (fun b o hb e => (s2.2 b hb).trans (k3 b o hb e)) hc2)
  dsimp only
  rcases S with ⟨h2, e⟩ | ⟨h2, _, c, p, hr, e, ask⟩
  · subst e
    have hn2 : out.toArray.size < 2 := by rw [List.size_toArray]; exact h2
    rw [if_pos hn2, if_pos hn2]
    refine wpAny_bind (wpAny_pure (wpAny_bind (wpAny_pure ?_)))
    refine fin (SortSt.mk' general' (out.toArray.zip out.toArray) #[] 7 none) ?_ rfl
    show (out.toArray.zip out.toArray).map (·.2) = out.toArray
    apply Array.ext'
    simp only [Array.toList_map, List.zip_toArray]
    exact List.map_snd_zip (Nat.le_refl _)
  · have hn2 : ¬ vs.toArray.size < 2 := by rw [List.size_toArray]; lia
    rw [if_neg hn2, if_neg hn2]
    refine (ask { s with heap := h3 } fun b o e => k3 b o (hk b o e).1 (hk b o e).2).elim fun κ zz1 => zz1.elim fun a1 a2 => ?_; clear zz1
    refine wpAny_bind (a1 _ _ ?_)
    have hk' : (kas_sort vs.length).kasWp (kas_ask prog w A κ vs) (fun p' s' => p' = p ∧ s' = { s with heap := h3 }) { s with heap := h3 } := runT_wp a2 _ hr ⟨rfl, rfl⟩
    refine wpAny_bind (wpAny_mono (kat_run (Q := fun st' s' => (arrOf st').map (·.2) = out.toArray ∧ failedOf st' = none ∧ s' = { s with heap := h3 }) (ks := vs) (vs := vs)
      rfl h2 h64 (fun p' st' s' b1 b2 b3 b4 => ⟨?_, b3, b4.2⟩) hk') ?_ fun _ _ e => e)
    · rw [kat_snds rfl b2, b4.1, e]
    · rintro ⟨⟨⟩, st'⟩ s' ⟨b1, b2, b3⟩
      subst b3
      exact fin st' b1 b2
theorem sorted_ok {l : Addr} {vs out : List Value} {Q : Value → Shared → Prop} (hl : s.heap.IsList l vs.toArray) (hz : out.length = vs.length) (h64 : vs.length < 64) (S : Sorts prog w A.in1.in1 s.heap vs out)
    (h : ∀ D h', s.heap.objs.size ≤ D → (∀ b o, s.heap.get? b = some o → h'.get? b = some o) → h'.PlainList D out.toArray → Q (.ref D) { s with heap := h' }) : wpAny (model prog w) A (call (.builtin "sorted") [.ref l]) Q E s := by
  refine Calls.call_function_entry kind_sorted plain_sorted entry_sorted (args_sorted1 _) ?_
  unfold Builtin.«sorted»
  refine wpAny_bind (m := checkCount "sorted" 1 1 _) (wpAny_pure ?_)
  refine wpAny_bind (collect_list hl ?_ (by rw [sizeLine_eq]; exact ar4 (by assumption) (by rfl)))
  refine wpAny_bind (wpAny_newList ?_ (by rw [sizeLine_eq]; exact ar4 (by assumption) (by rfl)))
  have hsz : ((s.heap.push (seqObj "list" #[] 0)).update s.heap.objs.size (Obj.mapSeq (· ++ vs.toArray))).objs.size = s.heap.objs.size + 1 := by
    rw [Heap.size_update, size_push']
  have hoL : (((s.heap.push (seqObj "list" #[] 0)).update s.heap.objs.size (Obj.mapSeq (· ++ vs.toArray))).push (seqObj "list" vs.toArray 0)).get? (s.heap.objs.size + 1) = some (seqObj "list" vs.toArray 0) := by
    rw [← hsz]; exact Heap.get?_push_size _ rfl
  have keep : ∀ b o, s.heap.get? b = some o → b ≠ s.heap.objs.size + 1 ∧ (((s.heap.push (seqObj "list" #[] 0)).update s.heap.objs.size (Obj.mapSeq (· ++ vs.toArray))).push (seqObj "list" vs.toArray 0)).get? b = some o := fun b o q => by
    have hlt : b < s.heap.objs.size := Heap.lt_size q
    refine ⟨Nat.ne_of_lt (Nat.lt_succ_of_lt hlt), ?_⟩
    rw [Heap.get?_push_ne _ _ _ (by rw [hsz]; exact Nat.ne_of_lt (Nat.lt_succ_of_lt hlt)), Heap.get?_update_ne _ _ _ _ (Nat.ne_of_lt hlt), Heap.get?_push_ne _ _ _ (Nat.ne_of_lt hlt)]
    exact q
  show wpAny _ _ _ _ _ { s with heap := ((s.heap.push (seqObj "list" #[] 0)).update s.heap.objs.size (Obj.mapSeq (· ++ vs.toArray))).push (seqObj "list" vs.toArray 0) }
  rw [hsz]
  refine wpAny_bind (wpAny_holding (wpAny_call_entry slot_list_sort ⟨_, hoL, rfl⟩ entry_list_sort ?body (args_list_sort _)))
  case body =>
    refine list_sort_ok (s := { s with heap := ((s.heap.push (seqObj "list" #[] 0)).update s.heap.objs.size (Obj.mapSeq (· ++ vs.toArray))).push (seqObj "list" vs.toArray 0) }) hoL keep hz h64 S fun h' n' k' hD => ?_
    exact ⟨_, rfl, wpAny_pure ⟨_, rfl, h _ h' (Nat.le_succ _) (fun b o e => k' b o (keep b o e).1 (keep b o e).2) ⟨n', hD⟩⟩⟩
end
theorem DVs.keeps {h h' : Heap} (k : ∀ b o, h.get? b = some o → h'.get? b = some o) {vs : List Value} {ds : List Dt} (x : DVs h vs ds) : DVs h' vs ds :=
  DVs.rec (motive_1 := fun v d _ => DV h' v d) (motive_2 := fun vs ds _ => DVs h' vs ds) .int .bool .str (fun ho _ ih => .tup (ho.elim fun o zz1 => zz1.elim fun e r => ⟨o, k _ _ e, r⟩) ih) (fun ho _ ih => .list (ho.elim fun n e => ⟨n, k _ _ e⟩) ih) .nil (fun _ _ a b => .cons a b) x
open Classical in
noncomputable def SortK (ds : List Dt) : Prop := ∀ (prog : Program) (w : World) (A : Around) (s : Shared) (vs : List Value), DVs s.heap vs ds → A.units + 30 < cLine → 2 ≤ vs.length →
  ∃ κ, (∀ (Q : SortKind → Shared → Prop) (E : Value → Shared → Prop), Q κ s → wpAny (model prog w) A (keyKind' vs.toArray) Q E s) ∧
    ∀ i j, i < vs.length → j < vs.length → ∀ C : Bool → Shared → Prop, C (decide (LtD (ds.getD i (.int 0)) (ds.getD j (.int 0)))) s → kas_ask prog w A κ vs i j C s
theorem DVs.picked {h : Heap} {vs : List Value} {ds : List Dt} (x : DVs h vs ds) : ∀ {idx : List Nat}, (∀ i ∈ idx, i < ds.length) → DVs h (idx.map fun i => vs.getD i Value.none) (idx.map fun i => ds.getD i (.int 0))
  | [], _ => .nil
  | i :: r, hi => by
    have h1 := hi i List.mem_cons_self
    have h2 : i < vs.length := by rw [x.length]; exact h1
    refine (x.get (i := i) (List.getElem?_eq_getElem h2)).elim fun d zz1 => zz1.elim fun e1 e2 => ?_; clear zz1
    refine .cons ?_ (DVs.picked x fun j hj => hi j (List.mem_cons_of_mem _ hj))
    show DV h (vs.getD i Value.none) (ds.getD i (.int 0))
    rw [List.getD_eq_getElem?_getD, List.getElem?_eq_getElem h2, List.getD_eq_getElem?_getD, e1]
    exact e2
theorem RVs.picked {B : Base} {ρ φ : List Addr} {h : Heap} {xs : List AV} {vs : List Value} (x : RVs B ρ φ h xs vs) : ∀ {idx : List Nat}, (∀ i ∈ idx, i < xs.length) → RVs B ρ φ h (idx.map fun i => xs.getD i .none) (idx.map fun i => vs.getD i Value.none)
  | [], _ => .nil
  | i :: r, hi => by
    have h1 := hi i List.mem_cons_self
    refine (x.get (i := i) (List.getElem?_eq_getElem h1)).elim fun v zz1 => zz1.elim fun e1 e2 => ?_; clear zz1
    refine .cons ?_ (RVs.picked x fun j hj => hi j (List.mem_cons_of_mem _ hj))
    show RV B ρ φ h (xs.getD i .none) (vs.getD i Value.none)
    rw [List.getD_eq_getElem?_getD, List.getElem?_eq_getElem h1, List.getD_eq_getElem?_getD, e1]
    exact e2
theorem Dats.length {H : List AO} {xs : List AV} {ds : List Dt} (x : Dats H xs ds) : xs.length = ds.length :=
  Dats.rec (motive_1 := fun _ _ _ => True) (motive_2 := fun xs ds _ => xs.length = ds.length) (fun _ => trivial) (fun _ => trivial) (fun _ => trivial) (fun _ _ => trivial) (fun _ _ => trivial) (fun _ _ _ => trivial) rfl (fun _ _ _ e => congrArg Nat.succ e) x
theorem Dats.getG {H : List AO} {xs : List AV} {ds : List Dt} (x : Dats H xs ds) : ∀ (i : Nat) (v : AV), xs[i]? = some v → ∃ d, ds[i]? = some d ∧ Dat H v d :=
  Dats.rec (motive_1 := fun _ _ _ => True) (motive_2 := fun xs ds _ => ∀ (i : Nat) (v : AV), xs[i]? = some v → ∃ d, ds[i]? = some d ∧ Dat H v d) (fun _ => trivial) (fun _ => trivial) (fun _ => trivial) (fun _ _ => trivial) (fun _ _ => trivial) (fun _ _ _ => trivial)
    (fun _ _ e => nomatch e) (fun hv _ _ ih i v => Nat.casesOn i (fun e => ⟨_, rfl, Option.some.inj e ▸ hv⟩) fun k e => ih k v e) x
theorem Dats.get {H : List AO} {xs : List AV} {ds : List Dt} {i : Nat} {v : AV} (x : Dats H xs ds) (e : xs[i]? = some v) : ∃ d, ds[i]? = some d ∧ Dat H v d := x.getG i v e
theorem Dats.picked {H : List AO} {vs : List AV} {ds : List Dt} (x : Dats H vs ds) : ∀ {idx : List Nat}, (∀ i ∈ idx, i < ds.length) → Dats H (idx.map fun i => vs.getD i .none) (idx.map fun i => ds.getD i (.int 0))
  | [], _ => .nil
  | i :: r, hi => by
    have h1 := hi i List.mem_cons_self
    have h2 : i < vs.length := by rw [x.length]; exact h1
    refine (x.get (i := i) (List.getElem?_eq_getElem h2)).elim fun d zz1 => zz1.elim fun e1 e2 => ?_; clear zz1
    refine .cons ?_ (Dats.picked x fun j hj => hi j (List.mem_cons_of_mem _ hj))
    show Dat H (vs.getD i .none) (ds.getD i (.int 0))
    rw [List.getD_eq_getElem?_getD, List.getElem?_eq_getElem h2, List.getD_eq_getElem?_getD, e1]
    exact e2
section
variable {C : Cx} {H : List AO}
theorem CALL_sorted {v : AV} {xs : List AV} {ds : List Dt} {Q : AV → List AO → Prop} (hv : IsL H v xs) (hd : Dats H xs ds) (S : Sortable ds) (h6 : ds.length ≤ 6) (K : SortK ds)
    (q : ∀ ys es, Dats H ys es → es.Perm ds → es.Pairwise LtD → Q (.list ys) H) : CALL C H (.builtin "sorted") [v] Q := fun A ρ φ s us hA R hx => by
  replace hx := hx.inv1
  cases hx with
  | mk rv =>
      refine (hv.get R rv).elim fun l zz1 => zz1.elim fun vs zz2 => zz2.elim fun zz3 zz4 => zz4.elim fun hl rx => ?_; clear zz4 zz2 zz1; (first | subst zz3 | cases zz3)
      have hl' : s.heap.IsList l vs.toList.toArray := by rw [Array.toArray_toList]; exact hl.isList
      have dv : DVs s.heap vs.toList ds := hd.dv R rx
      have len : vs.toList.length = ds.length := dv.length
      have xlen : xs.length = ds.length := hd.length
      have fin : ∀ (idx : List Nat), idx.Perm (List.range ds.length) → (idx.map fun i => ds.getD i (.int 0)).Pairwise LtD → Sorts C.B.prog C.B.w A.in1.in1 s.heap vs.toList (idx.map fun i => vs.toList.getD i Value.none) →
          wpAny (model C.B.prog C.B.w) A (call (.builtin "sorted") [.ref l]) (Post C ρ φ s Q) noE s := by
        intro idx hp hpw hS
        have hb : ∀ i ∈ idx, i < ds.length := fun i hi => List.mem_range.mp (hp.subset hi)
        have hlen : idx.length = ds.length := by rw [hp.length_eq, List.length_range]
        refine sorted_ok hl' (by rw [List.length_map, hlen, len]) (by lia) hS fun D h' hD k' hP => ?_
        refine post_at R hD k' (fun W n => .list hP n ?_) (q (idx.map fun i => xs.getD i .none) (idx.map fun i => ds.getD i (.int 0)) (hd.picked hb) ?_ hpw)
        · rw [List.toList_toArray]
          exact (rx.ext W).picked fun i hi => by rw [xlen]; exact hb i hi
        · have : (List.range ds.length).map (fun i => ds.getD i (.int 0)) = ds := by
            apply List.ext_getElem (by simp)
            intro i h1 h2
            simp [List.getD_eq_getElem?_getD, h2]
          have := hp.map fun i => ds.getD i (.int 0)
          rwa [‹(List.range ds.length).map (fun i => ds.getD i (.int 0)) = ds›] at this
      by_cases h2 : 2 ≤ ds.length
      · refine (sorts_data S h2 h6 (.int 0)).elim fun p zz1 => zz1.elim fun p1 zz2 => zz2.elim fun p2 p3 => ?_; clear zz2 zz1
        refine fin p.toList p2 p3 (.inr ⟨by exact as18 (by assumption) (by assumption), by lia, _, p, by rw [len]; exact p1, rfl, fun s' k' => ?_⟩)
        refine (K C.B.prog C.B.w A.in1.in1 s' vs.toList (dv.keeps k') (by have := hA.units; show A.units + 1 + 1 + 30 < 9900; lia) (by exact as18 (by assumption) (by assumption))).elim fun κ zz1 => zz1.elim fun a1 a2 => ?_; clear zz1
        exact ⟨κ, a1, a2⟩
      · refine fin (List.range ds.length) (List.Perm.refl _) ?_ (.inl ⟨by lia, ?_⟩)
        · have : ds.length = 0 ∨ ds.length = 1 := by lia
          rcases this with e | e <;> rw [e] <;> simp [List.range_succ]
        · apply List.ext_getElem (by simp [len])
          intro i h1 h2
          have h3 : i < vs.size := by simpa using h2
          simp [List.getD_eq_getElem?_getD, h3]
end
theorem dints_at {h : Heap} {vs : Array Value} {ns : List Int} (x : DVs h vs.toList (ns.map .int)) (j : Nat) (hj : j < vs.size) : ∃ i t, vs[j] = .int i t ∧ ns[j]? = some i := by
  refine (x.get (i := j) (v := vs[j]) (by rw [Array.getElem?_toList]; exact Array.getElem?_eq_getElem hj)).elim fun d zz1 => zz1.elim fun g r => ?_; clear zz1
  rw [List.getElem?_map] at g
  refine (Option.map_eq_some_iff.mp g).elim fun i zz1 => zz1.elim fun e zz2 => ?_; clear zz1; (first | subst zz2 | cases zz2)
  refine r.isInt.elim fun t q => ?_
  exact ⟨i, t, q, e⟩
theorem getI {ns : List Int} {j : Nat} {x : Dt} (h : (ns.map Dt.int)[j]? = some x) : ∃ i, ns[j]? = some i ∧ x = .int i := by
  rw [List.getElem?_map] at h
  refine (Option.map_eq_some_iff.mp h).elim fun i zz1 => zz1.elim fun e q => ?_; clear zz1
  exact ⟨i, e, q.symm⟩
theorem LtD_int {i j : Int} : LtD (.int i) (.int j) ↔ i < j := ⟨fun h => let ⟨_, e, q⟩ := LtD.inv h; Dt.int.inj e ▸ q, .int⟩
theorem LtD_list {xs ys : List Dt} : LtD (.list xs) (.list ys) ↔ LtDs xs ys := ⟨fun h => let ⟨_, e, q⟩ := LtD.inv h; Dt.list.inj e ▸ q, .list⟩
open Classical in
theorem seqs_lt {s : Shared} {A : Around} {ns ms : List Int} {vs ws : Array Value} (hx : DVs s.heap vs.toList (ns.map .int)) (hy : DVs s.heap ws.toList (ms.map .int)) :
    ∃ eq g : Nat → Bool, (∀ j (h1 : j < vs.size) (h2 : j < ws.size), SeqAt.EqAt A s vs[j] ws[j] (eq j)) ∧ (∀ j (h1 : j < vs.size) (h2 : j < ws.size), LtAt A s vs[j] ws[j] (g j)) ∧
      (lexAt eq g vs.size ws.size (min vs.size ws.size) 0 = decide (LtD (.list (ns.map .int)) (.list (ms.map .int)))) := by
  have lx : vs.size = (ns.map Dt.int).length := hx.length
  have ly : ws.size = (ms.map Dt.int).length := hy.length
  refine ⟨fun j => ns.getD j 0 == ms.getD j 0, fun j => decide (ns.getD j 0 < ms.getD j 0), fun j h1 h2 => ?_, fun j h1 h2 => ?_, ?_⟩
  · refine (dints_at hx j h1).elim fun a zz1 => zz1.elim fun t zz2 => zz2.elim fun e1 q1 => ?_; clear zz2 zz1
    refine (dints_at hy j h2).elim fun b zz1 => zz1.elim fun u zz2 => zz2.elim fun e2 q2 => ?_; clear zz2 zz1
    show SeqAt.EqAt A s vs[j] ws[j] (ns.getD j 0 == ms.getD j 0)
    rw [e1, e2, List.getD_eq_getElem?_getD, q1, List.getD_eq_getElem?_getD, q2]
    exact (cm_int rfl).1
  · refine (dints_at hx j h1).elim fun a zz1 => zz1.elim fun t zz2 => zz2.elim fun e1 q1 => ?_; clear zz2 zz1
    refine (dints_at hy j h2).elim fun b zz1 => zz1.elim fun u zz2 => zz2.elim fun e2 q2 => ?_; clear zz2 zz1
    show LtAt A s vs[j] ws[j] (decide (ns.getD j 0 < ms.getD j 0))
    rw [e1, e2, List.getD_eq_getElem?_getD, q1, List.getD_eq_getElem?_getD, q2]
    exact fun prog w E Q hq => lt_int hq
  · have key := lex_ok (fun j => ns.getD j 0 == ms.getD j 0) (fun j => decide (ns.getD j 0 < ms.getD j 0)) (ns.map .int) (ms.map .int) 0 (fun j x y e1 e2 => ?_) (fun j x y e1 e2 => ?_)
    · rw [Nat.zero_add, Nat.zero_add] at key
      rw [lx, ly, Bool.eq_iff_iff, key, decide_eq_true_iff, LtD_list]
    · refine (getI e1).elim fun a zz1 => zz1.elim fun q1 zz2 => ?_; clear zz1; (first | subst zz2 | cases zz2)
      refine (getI e2).elim fun b zz1 => zz1.elim fun q2 zz2 => ?_; clear zz1; (first | subst zz2 | cases zz2)
      rw [Nat.zero_add, List.getD_eq_getElem?_getD, q1, List.getD_eq_getElem?_getD, q2]
      exact beq_iff_eq.trans ⟨congrArg _, Dt.int.inj⟩
    · refine (getI e1).elim fun a zz1 => zz1.elim fun q1 zz2 => ?_; clear zz1; (first | subst zz2 | cases zz2)
      refine (getI e2).elim fun b zz1 => zz1.elim fun q2 zz2 => ?_; clear zz1; (first | subst zz2 | cases zz2)
      rw [Nat.zero_add, List.getD_eq_getElem?_getD, q1, List.getD_eq_getElem?_getD, q2, LtD_int]
      exact decide_eq_true_iff
open Classical in
theorem SortK_lists {ds : List Dt} (h : ∀ d ∈ ds, ∃ ns : List Int, d = .list (ns.map .int)) : SortK ds := fun prog w A s vs dv hu h2 => by
  refine ⟨oneType', fun Q E q => kas_kind h2 (T := .type "list") (fun v hv => ?_) (by decide) (by decide) q, fun i j hi hj C hC => ?_⟩
  · refine (List.getElem_of_mem hv).elim fun i zz1 => zz1.elim fun hi e => ?_; clear zz1
    refine (dv.get (i := i) (v := v) (by rw [List.getElem?_eq_getElem hi, e])).elim fun d zz1 => zz1.elim fun e1 e2 => ?_; clear zz1
    refine (h d (List.mem_of_getElem? e1)).elim fun ns e3 => ?_
    subst e3
    cases e2.inv with
    | mk ho hd => exact fun A Q E s k q => wpAny_typeOf (ho.elim fun n e => ⟨_, k _ _ e, rfl⟩) q
  · have len := dv.length
    refine (dv.get (i := i) (List.getElem?_eq_getElem hi)).elim fun a zz1 => zz1.elim fun a1 a2 => ?_; clear zz1
    refine (dv.get (i := j) (List.getElem?_eq_getElem hj)).elim fun b zz1 => zz1.elim fun b1 b2 => ?_; clear zz1
    rw [List.getD_eq_getElem?_getD, a1, List.getD_eq_getElem?_getD, b1] at hC
    refine (h a (List.mem_of_getElem? a1)).elim fun ns zz1 => ?_; (first | subst zz1 | cases zz1)
    refine (h b (List.mem_of_getElem? b1)).elim fun ms zz1 => ?_; (first | subst zz1 | cases zz1)
    unfold kas_ask
    rw [List.getD_eq_getElem?_getD, List.getElem?_eq_getElem hi, List.getD_eq_getElem?_getD, List.getElem?_eq_getElem hj]
    show wpAny (model prog w) A (keyLt' oneType' vs[i] vs[j]) _ _ _
    generalize vs[i] = x at a2
    generalize vs[j] = y at b2
    cases a2.inv with
    | mk ho hd => cases b2.inv with
      | mk ho' hd' =>
        refine (seqs_lt (A := A.in1) hd hd').elim fun eq zz1 => zz1.elim fun g zz2 => zz2.elim fun g1 zz3 => zz3.elim fun g2 g3 => ?_; clear zz3 zz2 zz1
        refine ho.elim fun n1 p1 => ?_; (try clear ho)
        refine ho'.elim fun n2 p2 => ?_; (try clear ho')
        rw [keyLt'_oneType, oneLt'_eq, if_pos rfl]
        refine wpAny_bind (wpAny_cRoomFor (Nat.lt_of_le_of_lt (Nat.le_add_right _ _) hu) ?_)
        refine wpAny_bind (wpAny_callSpecialIfBound?_slot (T := "list") ⟨_, p1, rfl⟩ PySem.F.slot_list_lt (call_meets PySem.F.slot_list_lt ⟨_, p1, rfl⟩ PySem.F.entry_list_lt (PySem.F.args_list_lt_2 _ _) (list_lt _ _ _ _ n1 n2 eq g) ⟨p1, p2, g1, g2, ?_⟩))
        rw [g3]
        exact wpAny_truthy_bool hC
end
section
section
variable {C : Cx} {sc : Scope} {vars : Vars} {H : List AO}
theorem ints_pick {vs : List Value} {ns : List Int} (h : IntsAre vs ns) (idx : List Nat) : ∃ ms : List Int, IntsAre (idx.filterMap (vs[·]?)) ms ∧ ms.length ≤ idx.length ∧ ∀ m ∈ ms, m ∈ ns := by
  induction idx with
  | nil => exact ⟨[], .nil, Nat.le_refl _, fun m hm => by cases hm⟩
  | cons i r ih =>
    refine ih.elim fun ms zz1 => zz1.elim fun h1 zz2 => zz2.elim fun h2 h3 => ?_; clear zz2 zz1; (try clear ih)
    rw [List.filterMap_cons]
    cases e : vs[i]? with
    | none => exact ⟨ms, h1, by simp; exact as1 (by assumption), h3⟩
    | some v =>
      have hl := h.length
      refine (List.getElem?_eq_some_iff.mp e).elim fun hi _ => ?_
      refine (ints_at h e (List.getElem?_eq_getElem (by exact as19 (by assumption) (by assumption) : i < ns.length))).elim fun t ht => ?_
      subst ht
      refine ⟨ns[i] :: ms, .cons _ _ h1, by simp; assumption, fun m hm => ?_⟩
      rcases List.mem_cons.mp hm with q | q
      · rw [q]; exact List.getElem_mem _
      · exact h3 m q
theorem SLICE_script {a : Addr} {vs : Array Value} {ns : List Int} {lo hi : Option Int} {k : Int} {Q : AV → List AO → Prop} (hs : C.B.h0.IsList a vs) (hi' : IntsAre vs.toList ns) (hk : k ≠ 0) (hz : ns.length ≤ 16777216)
    (q : ∀ ms : List Int, ms.length ≤ ns.length → Q (.list (ms.map .int)) H) : SLICE C H (.val (.ref a)) lo hi (some k) Q := fun A ρ φ s x sl l u t hA R rx hsl e1 e2 e3 => by
  cases rx.eqv
  subst e1 e2
  have il : s.heap.IsList a vs := hs.at fun o e => R.base _ _ e
  have hl : vs.size = ns.length := by have := hi'.length; simpa using this
  refine (ints_pick hi' (sliceRange (sliceBounds (l.map (·.1)) (u.map (·.1)) (some k) vs.size).1 (sliceBounds (l.map (·.1)) (u.map (·.1)) (some k) vs.size).2.1 (sliceBounds (l.map (·.1)) (u.map (·.1)) (some k) vs.size).2.2)).elim fun ms zz1 => zz1.elim fun h1 zz2 => zz2.elim fun h2 _ => ?_; clear zz2 zz1
  have h0 : (slicePick vs (l.map (·.1)) (u.map (·.1)) (some k)).toList = (sliceRange (sliceBounds (l.map (·.1)) (u.map (·.1)) (some k) vs.size).1 (sliceBounds (l.map (·.1)) (u.map (·.1)) (some k) vs.size).2.1 (sliceBounds (l.map (·.1)) (u.map (·.1)) (some k) vs.size).2.2).filterMap (vs.toList[·]?) := by
    unfold slicePick
    rw [List.toList_toArray]
    congr 1
    funext i; simp
  have h3 : ms.length ≤ ns.length := by
    have e := h1.length
    have z := slicePick_size_le vs (l.map (·.1)) (u.map (·.1)) (some k)
    have z2 := congrArg List.length h0
    rw [Array.length_toList] at z2
    lia
  have rv : RVs C.B ρ φ s.heap (ms.map .int) (slicePick vs (l.map (·.1)) (u.map (·.1)) (some k)).toList := by rw [h0]; exact RVs.ofInts h1
  exact ⟨_, _, list_getitem_lookup, il.typeIs, wpAny_getItem_list_slice il hsl isPart_of isPart_of (by have := isPart_of (p := t); rw [e3] at this; exact this) (by simpa using hk)
    (post_push (C := C) R (v := .list _) (fun X n => .list ⟨0, Heap.get?_push_size _ rfl⟩ n (rv.ext X)) (q ms h3)) (by rw [hl]; exact sz_ok hz)⟩
theorem CALL_lenscript {a : Addr} {vs : Array Value} {ns : List Int} {Q : AV → List AO → Prop} (hs : C.B.h0.IsList a vs) (hi' : IntsAre vs.toList ns) (hz : ns.length ≤ 16777216) (q : Q (.int ns.length) H) : CALL C H (.builtin "len") [.val (.ref a)] Q := fun A ρ φ s cs hA R r => by
  have hl : vs.size = ns.length := by have := hi'.length; simpa using this
  replace r := r.inv1
  cases r with
  | mk rx =>
      cases rx.eqv
      have il : s.heap.IsList a vs := hs.at fun o e => R.base _ _ e
      exact PyProof.Rows.len_list il (by omega) (by rw [hl]; exact post_toks R (.int _ _) q)
end
end
section
structure GW (KK : Params → Frag) (B : Base) : Prop where
  ok : B.Ok
  K : B.K = KK B.w.params
section
variable {KK : Params → Frag} {C : Cx} {sc : Scope} {vars : Vars} {H : List AO}
theorem fnOk_of {B : Base} {a : Addr} {fd : FuncData} {names : List String} {body : List Stmt} {oc : Value} {od : Option Addr} {osl : Array (Option Value)} (G : GW KK B) (lk : (KK B.w.params).lookup a = some ⟨oc, od, .func fd, osl⟩) (hb : fd.body = .stmts body)
    (hc : codeIn (KK B.w.params) fd.code fd.qualname = true) (h1 : fd.closure = []) (h2 : fd.globals = mainGlobals) (h3 : fd.builtins = builtinsNs)
    (bind : ∀ xs : List Value, xs.length = names.length → bindArgs fd ⟨xs, []⟩ = pure ((names.map Str.ofString).zip xs))
    (kinds : (names.all fun x => isOwnK (fd.scope.names.lookup (Str.ofString x))) = true) (nodup : names.Nodup) (nofree : (fd.scope.names.all fun x => x.2 != .free) = true)
    (co : fd.scope.isCoroutine = false) (gen : fd.scope.isGenerator = false) (kind : fd.scope.kind = .function) : FnOk B a fd names body :=
  ⟨by rw [G.K]; exact ⟨_, _, _, lk⟩, h1, h2, h3, hb, by rw [G.K]; exact hc, bind, kinds, nodup, nofree, co, gen, kind⟩
theorem bind1 {fd : FuncData} {x : String} (h : ∀ a, bindArgs fd ⟨[a], []⟩ = pure [(Str.ofString x, a)]) : ∀ xs : List Value, xs.length = [x].length → bindArgs fd ⟨xs, []⟩ = pure (([x].map Str.ofString).zip xs) := fun xs e => by
  refine (List.length_eq_one_iff.mp e).elim fun a zz1 => ?_; (first | subst zz1 | cases zz1); exact h a
theorem bind2 {fd : FuncData} {x y : String} (h : ∀ a b, bindArgs fd ⟨[a, b], []⟩ = pure [(Str.ofString x, a), (Str.ofString y, b)]) : ∀ xs : List Value, xs.length = [x, y].length → bindArgs fd ⟨xs, []⟩ = pure (([x, y].map Str.ofString).zip xs) := fun xs e => by
  refine (List.exists_cons_of_length_eq_add_one e).elim fun a zz1 => zz1.elim fun r zz2 => ?_; clear zz1; (first | subst zz2 | cases zz2)
  refine (List.length_eq_one_iff.mp (Nat.succ.inj e)).elim fun b zz1 => ?_; (first | subst zz1 | cases zz1)
  exact h a b
theorem bind3 {fd : FuncData} {x y z : String} (h : ∀ a b c, bindArgs fd ⟨[a, b, c], []⟩ = pure [(Str.ofString x, a), (Str.ofString y, b), (Str.ofString z, c)]) : ∀ xs : List Value, xs.length = [x, y, z].length → bindArgs fd ⟨xs, []⟩ = pure (([x, y, z].map Str.ofString).zip xs) := fun xs e => by
  refine (List.exists_cons_of_length_eq_add_one e).elim fun a zz1 => zz1.elim fun r zz2 => ?_; clear zz1; (first | subst zz2 | cases zz2)
  refine (List.exists_cons_of_length_eq_add_one (Nat.succ.inj e)).elim fun b zz1 => zz1.elim fun r zz2 => ?_; clear zz1; (first | subst zz2 | cases zz2)
  refine (List.length_eq_one_iff.mp (Nat.succ.inj (Nat.succ.inj e))).elim fun c zz1 => ?_; (first | subst zz1 | cases zz1)
  exact h a b c
noncomputable def seqK (C : Cx) (sc : Scope) (rest : List Stmt) (Q : AF → Vars → List AO → Prop) : AF → Vars → List AO → Prop
  | .next, v, H => EXs C sc v H rest Q
  | f, v, H => Q f v H
theorem seqK_next {rest : List Stmt} {Q : AF → Vars → List AO → Prop} (h : EXs C sc vars H rest Q) : seqK C sc rest Q .next vars H := h
theorem seqK_ret {rest : List Stmt} {Q : AF → Vars → List AO → Prop} {v : AV} (h : Q (.ret v) vars H) : seqK C sc rest Q (.ret v) vars H := h
theorem seqK_brk {rest : List Stmt} {Q : AF → Vars → List AO → Prop} (h : Q .brk vars H) : seqK C sc rest Q .brk vars H := h
theorem seqK_cont {rest : List Stmt} {Q : AF → Vars → List AO → Prop} (h : Q .cont vars H) : seqK C sc rest Q .cont vars H := h
theorem EXs_seq {st : Stmt} {rest : List Stmt} {Q : AF → Vars → List AO → Prop} (h : EX C sc vars H st (seqK C sc rest Q)) : EXs C sc vars H (st :: rest) Q :=
  EXs_cons (h.mono fun f v H q => by cases f <;> exact q)
theorem EV_globW {x : Str} {pos : Pos} {v : Value} {a : AV} {Q : AV → List AO → Prop} (G : GW KK C.B) (hx : sc.names.lookup x = some .globalImplicit) (hn : nsIn (KK C.B.w.params) mainGlobals x = some (some v)) (hd : (x == ("__debug__" : Str)) = false)
    (g : GlobIs C.B v a) (q : Q a H) : EV C sc vars H (.Name x pos) Q := EV_glob G.ok hx hd (by rw [G.K]; exact hn) g q
theorem EV_biW {x : Str} {pos : Pos} {v : Value} {a : AV} {Q : AV → List AO → Prop} (G : GW KK C.B) (hx : sc.names.lookup x = some .globalImplicit) (hn : nsIn (KK C.B.w.params) mainGlobals x = some none) (hd : (x == ("__debug__" : Str)) = false)
    (hb : bootBuiltins x = some v) (hm : x ≠ ("__name__" : Str)) (g : GlobIs C.B v a) (q : Q a H) : EV C sc vars H (.Name x pos) Q := EV_bi G.ok hx hd (by rw [G.K]; exact hn) hb hm g q
theorem globRefW {a : Addr} (G : GW KK C.B) (h : ((KK C.B.w.params).lookup a).isSome = true) : GlobIs C.B (.ref a) (.val (.ref a)) := .ref (by rw [G.K]; exact h)
@[reducible] noncomputable def argK (C : Cx) (f : Value) (Q : AV → List AO → Prop) : List AV → List AO → Prop := fun vs H2 => CALL C H2 f vs Q
@[reducible] noncomputable def callK (K : Frag) (C : Cx) (sc : Scope) (vars : Vars) (es : List Expr) (Q : AV → List AO → Prop) : AV → List AO → Prop := fun fv H1 => ∃ f, fv = .val f ∧ keepOk K f = true ∧ EVs C sc vars H1 es (argK C f Q)
@[reducible] noncomputable def argmK (C : Cx) (f : Value) (ov : AV) (Q : AV → List AO → Prop) : List AV → List AO → Prop := fun vs H2 => CALL C H2 f (ov :: vs) Q
@[reducible] noncomputable def methK (K : Frag) (C : Cx) (sc : Scope) (vars : Vars) (name : Str) (es : List Expr) (Q : AV → List AO → Prop) : AV → List AO → Prop := fun ov H1 => ∃ f, GETM C H1 ov name f ∧ keepOk K f = true ∧ EVs C sc vars H1 es (argmK C f ov Q)
theorem EV_callW {fn : Expr} {es : List Expr} {pos : Pos} {Q : AV → List AO → Prop} (G : GW KK C.B) (hp : plainArgs es = true)
    (hev : ∀ env, eval (.Call fn es [] pos) env = (do callWith pos (← eval fn env) [] (backTo pos (starEach es env)) []))
    (h : EV C sc vars H fn (callK (KK C.B.w.params) C sc vars es Q)) : EV C sc vars H (.Call fn es [] pos) Q :=
  EV_call G.ok hp hev (by simpa only [G.K] using h)
theorem EV_methW {o : Expr} {name : Str} {apos pos : Pos} {es : List Expr} {pl : Env → Sem Bool} {Q : AV → List AO → Prop} (G : GW KK C.B) (hp : plainArgs es = true)
    (hev : ∀ env, eval (.Call (.Attribute o name apos) es [] pos) env = (do
        let ov ← eval o env
        standAt apos.atName
        let (f, first) ← holding [ov] (getMethod ov name (pl env))
        callWith pos f first (backTo pos (starEach es env)) []))
    (h : EV C sc vars H o (methK (KK C.B.w.params) C sc vars name es Q)) : EV C sc vars H (.Call (.Attribute o name apos) es [] pos) Q :=
  EV_meth G.ok hp hev (by simpa only [G.K] using h)
theorem EVs_nil {Q : List AV → List AO → Prop} (q : Q [] H) : EVs C sc vars H [] Q := q
@[reducible] noncomputable def pushK (v : AV) (Q : List AV → List AO → Prop) : List AV → List AO → Prop := fun vs H2 => Q (v :: vs) H2
@[reducible] noncomputable def consK (C : Cx) (sc : Scope) (vars : Vars) (r : List Expr) (Q : List AV → List AO → Prop) : AV → List AO → Prop := fun v H1 => EVs C sc vars H1 r (pushK v Q)
theorem EVs_cons {e : Expr} {r : List Expr} {Q : List AV → List AO → Prop} (h : EV C sc vars H e (consK C sc vars r Q)) : EVs C sc vars H (e :: r) Q := h
theorem if_dec {c : Prop} [Decidable c] {P R : Prop} (h1 : c → P) (h2 : ¬ c → R) : if decide c = true then P else R := by
  by_cases h : c
  · rw [if_pos (by simpa using h)]; exact h1 h
  · rw [if_neg (by simpa using h)]; exact h2 h
theorem if_tt {P R : Prop} (h : P) : if true = true then P else R := h
theorem if_ff {P R : Prop} (h : R) : if false = true then P else R := h
theorem frz_ok {n : Nat} {v v' : AV} {Q : AV → List AO → Prop} (hf : Frz n H v v') (q : Q v' H) (hn : n = H.length) : ∃ J, H = H ++ J ∧ ∃ v', Frz H.length H v v' ∧ Q v' H := ⟨[], by simp, v', hn ▸ hf, q⟩
theorem SUB_L {o : AV} {xs : List AV} {i : Int} {v : AV} {Q : AV → List AO → Prop} (ho : IsL H o xs) (h0 : 0 ≤ i) (hv : xs[i.toNat]? = some v) (hz : xs.length ≤ 16777216) (q : Q v H) : SUB C H o (.int i) Q := by
  cases ho with
  | imm => exact SUB_list h0 hv hz q
  | ref h => exact SUB_rlist h h0 hv hz q
theorem CALL_newF {c fI : Addr} {fd : FuncData} {names : List String} {body : List Stmt} {vs : List AV} {as : List (String × AV)} {Q : AV → List AO → Prop} (O : C.B.Ok) (hd : 1 < C.d) (K : ClsOk C.B c fI) (F : FnOk C.B fI fd names body) (hl : vs.length + 1 = names.length)
    (h : EXs C.down.down fd.scope (names.zip (.ref (H.length + 1) :: vs)) (H ++ [.ns []] ++ [.inst c H.length]) body fun f _ H1 => retOf f = .none ∧ ∃ as J, H1 = H ++ [.ns as] ++ [.inst c H.length] ++ J ∧ ∃ bs, as.map (·.1) = bs.map (·.1) ∧ Frzs H.length H1 (as.map (·.2)) (bs.map (·.2)) ∧ Q (.inst c bs) H) :
    CALL C H (.ref c) vs Q := fun A ρ φ s xs hA R hx =>
  wpAny_mono (CALL_new O hd K F hl (Q := fun v H1 => H.length ≤ H1.length ∧ (∀ (i : Nat) o, i < H.length → H1[i]? = some o → H[i]? = some o ∨ ScpO H.length o) ∧ ∃ v', Frz H.length H1 v v' ∧ Q v' (H1.take H.length)) (h.mono fun f v H1 zz1 => zz1.elim fun e zz2 => zz2.elim fun as zz3 => zz3.elim fun J zz4 => zz4.elim fun eH zz5 => zz5.elim fun bs zz6 => zz6.elim fun hk zz7 => zz7.elim fun hf q => by
    subst eH
    have e1 : (H ++ [AO.ns as] ++ [AO.inst c H.length] ++ J) = H ++ ([AO.ns as] ++ [AO.inst c H.length] ++ J) := by simp
    refine ⟨e, by simp only [List.length_append]; lia, fun i o hi e => .inl (by rw [e1] at e; rwa [List.getElem?_append_left hi] at e), _, .rinst (c := c) (d := H.length) (Nat.le_succ _) ?_ (Nat.le_refl _) ?_ hk hf, ?_⟩
    · rw [e1, List.getElem?_append_right (Nat.le_succ _)]; simp
    · rw [e1, List.getElem?_append_right (Nat.le_refl _)]; simp
    · rw [e1, List.take_left]; exact q) A ρ φ s xs hA R hx) (fun v s' p => p.drop R) fun _ _ x => x
end
end
section
theorem upd_upd (x : String) (u v : AV) : ∀ V : Vars, upd x v (upd x u V) = upd x v V
  | [] => by simp [upd]
  | (y, w) :: r => by
    by_cases h : (x == y) = true
    · have : x = y := by simpa using h
      subst this
      simp [upd]
    · have h' : (x == y) = false := by simpa using h
      simp only [upd, h', Bool.false_eq_true, if_false]
      rw [upd_upd x u v r]
theorem upd_upd2 {x y : String} (hn : x ≠ y) (u u' v v' : AV) : ∀ V : Vars, upd y v' (upd x v (upd y u' (upd x u V))) = upd y v' (upd x v V)
  | [] => by
    have h1 : (y == x) = false := by simpa using hn.symm
    simp [upd, h1]
  | (z, w) :: r => by
    have h1 : (y == x) = false := by simpa using hn.symm
    have h2 : (x == y) = false := by simpa using hn
    by_cases hx : x = z
    · subst hx
      simp only [upd, beq_self_eq_true, if_true, h1, Bool.false_eq_true, if_false]
      rw [upd_upd]
    · have hx' : (x == z) = false := by simpa using hx
      by_cases hy : y = z
      · subst hy
        simp only [upd, beq_self_eq_true, if_true, hx', Bool.false_eq_true, if_false]
        rw [upd_upd]
      · have hy' : (y == z) = false := by simpa using hy
        simp only [upd, hx', hy', Bool.false_eq_true, if_false]
        rw [upd_upd2 hn u u' v v' r]
section
variable {C : Cx} {sc : Scope} {vars : Vars} {H : List AO}
theorem EVI.mono {target iter : Expr} {Q Q' : List Nat → List AV → List AO → Prop} (h : EVI C sc vars H target iter Q) (k : ∀ fs xs H1, Q fs xs H1 → Q' fs xs H1) : EVI C sc vars H target iter Q' := fun A env ρ φ s hA hE R V =>
  wpAny_mono (h A env ρ φ s hA hE R V) (fun c s1 z => wpAny_mono z (fun it s2 p => by
    cases p with
    | mk ρ1 φ1 H1 h1 fs xs I wr fp St e X R W q => exact .mk ρ1 φ1 H1 h1 fs xs I wr fp St e X R W (k _ _ _ q)) fun _ _ x => x) fun _ _ x => x
theorem TST_mono {ifs : List Expr} {Q Q' : Bool → List AO → Prop} (h : TST C sc vars H ifs Q) (k : ∀ b H, Q b H → Q' b H) : TST C sc vars H ifs Q' := match ifs, h with
  | [], h => k _ _ h
  | [_], h => ET.mono h k
  | _ :: _ :: _, h => h.elim
theorem CMP_pure {x : String} {p : Pos} {iter elt : Expr} {ifs : List Expr} {scope : Scope} {Q : List AV → List AO → Prop} (hx : isOwn (relS scope sc) (Str.ofString x) = true)
    (h : EVI C sc vars H (.Name (Str.ofString x) p) iter fun fs xs H1 => ∃ acc : Nat → List AV, acc 0 = [] ∧ (∀ k, k ≤ xs.length → (acc k).length ≤ 16000000) ∧
      (∀ (k : Nat) (v : AV), xs[k]? = some v → TST (C.hold fs) (relS scope sc) (upd x v (capV scope vars)) H1 ifs fun b H2 => H2 = H1 ∧
        if b = true then EV (C.hold fs) (relS scope sc) (upd x v (capV scope vars)) H1 elt (fun w H3 => H3 = H1 ∧ acc (k + 1) = acc k ++ [w]) else acc (k + 1) = acc k) ∧ Q (acc xs.length) H1) :
    CMP C sc vars H elt ⟨.Name (Str.ofString x) p, iter, ifs, 0⟩ [] scope Q :=
  EVI.mono h fun fs xs H1 w => by
    obtain ⟨acc, a0, al, st, q⟩ := w
    refine ⟨fun k zs v H => zs = acc k ∧ H = H1 ∧ k ≤ xs.length ∧ upd x .none v = upd x .none (capV scope vars), ⟨a0.symm, rfl, Nat.zero_le _, rfl⟩, fun k u zs v H hk i => ?_, fun zs v H i => i.1 ▸ i.2.1 ▸ q⟩
    obtain ⟨rfl, rfl, e4, e5⟩ := i
    have hv : upd x u v = upd x u (capV scope vars) := by rw [← upd_upd x .none u v, e5, upd_upd]
    have hkl : k + 1 ≤ xs.length := lt_of_get hk
    have e6 : upd x .none (upd x u (capV scope vars)) = upd x .none (capV scope vars) := upd_upd _ _ _ _
    refine AS_name hx ?_
    rw [hv]
    refine TST_mono (st k u hk) fun b H2 t => ?_
    obtain ⟨rfl, t⟩ := t
    cases b with
    | true => exact ⟨al k e4, EV.mono t fun w H3 z => ⟨z.2.symm, z.1, hkl, e6⟩⟩
    | false => exact ⟨t.symm, rfl, hkl, e6⟩
theorem take_succ_get {α : Type} {l : List α} {k : Nat} {w : α} (h : l[k]? = some w) : l.take (k + 1) = l.take k ++ [w] := by
  rw [List.take_add_one, h]; rfl
theorem CMP_map {x : String} {p : Pos} {iter elt : Expr} {scope : Scope} {Q : List AV → List AO → Prop} (hx : isOwn (relS scope sc) (Str.ofString x) = true)
    (h : EVI C sc vars H (.Name (Str.ofString x) p) iter fun fs xs H1 => ∃ ys : List AV, ys.length = xs.length ∧ ys.length ≤ 16000000 ∧
      (∀ (k : Nat) (v : AV), xs[k]? = some v → EV (C.hold fs) (relS scope sc) (upd x v (capV scope vars)) H1 elt fun w H3 => H3 = H1 ∧ ys[k]? = some w) ∧ Q ys H1) :
    CMP C sc vars H elt ⟨.Name (Str.ofString x) p, iter, [], 0⟩ [] scope Q :=
  CMP_pure hx (EVI.mono h fun fs xs H1 zz1 => zz1.elim fun ys zz2 => zz2.elim fun l1 zz3 => zz3.elim fun l2 zz4 => zz4.elim fun st q =>
    ⟨fun k => ys.take k, rfl, fun k _ => Nat.le_trans (List.length_take_le' _ _) l2, fun k v hk => ⟨rfl, by rw [if_pos rfl]; exact EV.mono (st k v hk) fun w H3 z => ⟨z.1, take_succ_get z.2⟩⟩, by show Q (ys.take xs.length) H1; rw [← l1, List.take_length]; exact q⟩)
theorem CMP_map2 {x y : String} {p p' p'' : Pos} {kk : Nat} {iter elt : Expr} {scope : Scope} {Q : List AV → List AO → Prop} (hn : x ≠ y) (hx : isOwn (relS scope sc) (Str.ofString x) = true) (hy : isOwn (relS scope sc) (Str.ofString y) = true)
    (h : EVI C sc vars H (.Tuple [.Name (Str.ofString x) p, .Name (Str.ofString y) p'] kk p'') iter fun fs xs H1 => ∃ (us : List (AV × AV)) (ys : List AV), xs = us.map (fun u => .tup [u.1, u.2]) ∧ ys.length = us.length ∧ ys.length ≤ 16000000 ∧
      (∀ (k : Nat) (u : AV × AV), us[k]? = some u → EV (C.hold fs) (relS scope sc) (upd y u.2 (upd x u.1 (capV scope vars))) H1 elt fun w H3 => H3 = H1 ∧ ys[k]? = some w) ∧ Q ys H1) :
    CMP C sc vars H elt ⟨.Tuple [.Name (Str.ofString x) p, .Name (Str.ofString y) p'] kk p'', iter, [], 0⟩ [] scope Q :=
  EVI.mono h fun fs xs H1 w => by
    refine w.elim fun us zz1 => zz1.elim fun ys zz2 => zz2.elim fun zz3 zz4 => zz4.elim fun l1 zz5 => zz5.elim fun l2 zz6 => zz6.elim fun st q => ?_; clear zz6 zz5 zz4 zz2 zz1; (try clear w); (first | subst zz3 | cases zz3)
    refine ⟨fun k zs v H => zs = ys.take k ∧ H = H1 ∧ upd y .none (upd x .none v) = upd y .none (upd x .none (capV scope vars)), ⟨rfl, rfl, rfl⟩, fun k u zs v H hk i => ?_, fun zs v H i => ?_⟩
    · refine i.elim fun zz1 zz2 => zz2.elim fun zz3 e5 => ?_; clear zz2; (try clear i); (first | subst zz1 | cases zz1); (first | subst zz3 | cases zz3)
      rw [List.getElem?_map] at hk
      refine (Option.map_eq_some_iff.mp hk).elim fun uu zz1 => zz1.elim fun hu e => ?_; clear zz1
      replace e : AV.tup [uu.1, uu.2] = u := e
      subst e
      have hv : upd y uu.2 (upd x uu.1 v) = upd y uu.2 (upd x uu.1 (capV scope vars)) := (upd_upd2 hn .none .none uu.1 uu.2 v).symm.trans ((congrArg (fun v => upd y uu.2 (upd x uu.1 v)) e5).trans (upd_upd2 hn _ _ _ _ _))
      refine AS_tuple rfl (UNP_tup rfl ?_)
      refine AS_name hx (AS_name hy ?_)
      simp only [ASs, TST]
      rw [hv, if_pos trivial]
      exact ⟨Nat.le_trans (List.length_take_le' _ _) l2, EV.mono (st k uu hu) fun w H3 z => ⟨(take_succ_get z.2).symm, z.1, upd_upd2 hn _ _ _ _ _⟩⟩
    · refine i.elim fun zz1 zz2 => zz2.elim fun zz3 _ => ?_; clear zz2; (try clear i); (first | subst zz1 | cases zz1); (first | subst zz3 | cases zz3)
      rw [List.length_map, ← l1, List.take_length]; exact q
theorem ownK_of {scope : Scope} {x : Str} (h : isOwn scope x = true) : ownK scope x := by
  unfold isOwn at h
  unfold ownK
  split at h
  · rename_i e; exact .inl e
  · rename_i e; exact .inr e
  · cases h
theorem ASs_nil {Q : Vars → List AO → Prop} (q : Q vars H) : ASs C sc vars H [] [] Q := q
@[reducible] noncomputable def asK (C : Cx) (sc : Scope) (ts : List Expr) (vs : List AV) (Q : Vars → List AO → Prop) : Vars → List AO → Prop := fun v2 H2 => ASs C sc v2 H2 ts vs Q
theorem ASs_cons {t : Expr} {ts : List Expr} {v : AV} {vs : List AV} {Q : Vars → List AO → Prop} (h : AS C sc vars H t v (asK C sc ts vs Q)) : ASs C sc vars H (t :: ts) (v :: vs) Q := by
  simp only [ASs]; exact h
theorem swaps_no {elt : Expr} {gens : List Comprehension} {scope : Scope} {cpos pos : Pos} {t : Str} {line : Nat} {env : Env} (hE : EnvOk sc env) (h : (sc.names.lookup t == some .local) = false) : swapsWith (.ListComp elt gens scope cpos) (some (.Name t pos)) line env = pure false := by
  show (pure (env.blockKind == .function && env.kindOf t == some .local && pos.line == cpos.line && !(scope.names.any fun (n, k) => n == t && (k == .local || k == .cell))) : Sem Bool) = _
  rw [hE.kindOf, h, Bool.and_false, Bool.false_and, Bool.false_and]
theorem swaps_yes {elt : Expr} {gens : List Comprehension} {scope : Scope} {cpos pos : Pos} {t : Str} {line : Nat} {env : Env} (hE : EnvOk sc env) (h : sc.names.lookup t = some .local) (hl : (pos.line == cpos.line) = true)
    (hn : (scope.names.any fun (n, k) => n == t && (k == .local || k == .cell)) = false) : swapsWith (.ListComp elt gens scope cpos) (some (.Name t pos)) line env = pure true := by
  show (pure (env.blockKind == .function && env.kindOf t == some .local && pos.line == cpos.line && !(scope.names.any fun (n, k) => n == t && (k == .local || k == .cell))) : Sem Bool) = _
  rw [hE.kindOf, h, hl, hn]
  have : env.blockKind = .function := by unfold Env.blockKind; rw [hE.scope, hE.kind]; rfl
  rw [this]; rfl
theorem noPy {x y : Int} (h : y.natAbs < 1073741824) : Builtin.divisionGoesByPylong x y = false := by
  unfold Builtin.divisionGoesByPylong
  have : y.natAbs.log2 < 30 := by
    by_cases z : y.natAbs = 0
    · rw [z]; decide
    · exact (Nat.log2_lt z).mpr (by assumption)
  by_cases z : y = 0
  · subst z; simp
  · have : y.natAbs.log2 / 30 = 0 := Nat.div_eq_of_lt this
    simp [z, this]
noncomputable def Sub (V0 vars : Vars) : Prop := ∀ x v, V0.lookup x = some v → vars.lookup x = some v
theorem Sub.nil : Sub [] vars := fun x v h => by cases h
theorem Sub.cons {x : String} {v : AV} {V0 : Vars} (h : vars.lookup x = some v) (r : Sub V0 vars) : Sub ((x, v) :: V0) vars := fun y w e => by
  rw [List.lookup_cons] at e
  cases hb : y == x with
  | true =>
    have : y = x := by simpa using hb
    rw [hb] at e; cases e
    rw [this]; exact h
  | false => rw [hb] at e; exact r y w e
theorem Sub.refl : Sub vars vars := fun _ _ h => h
theorem RVars.sub {B : Base} {ρ φ : List Addr} {env : Env} {V0 : Vars} {h : Heap} (V : RVars B ρ φ env vars h) (S : Sub V0 vars) : RVars B ρ φ env V0 h :=
  ⟨V.loc.elim fun m zz1 => zz1.elim fun a b => ⟨m, a, fun x v e k => b x v (S x v e) k⟩, fun x v e k => V.cells x v (S x v e) k, V.iscell, V.locn, V.locφ, V.celln, V.apart, V.cellsAll⟩
theorem EV.sub {V0 : Vars} {e : Expr} {Q : AV → List AO → Prop} (S : Sub V0 vars) (h : EV C sc V0 H e Q) : EV C sc vars H e Q := fun A env ρ φ s hA hE R V => h A env ρ φ s hA hE R (V.sub S)
theorem ET.sub {V0 : Vars} {e : Expr} {Q : Bool → List AO → Prop} (S : Sub V0 vars) (h : ET C sc V0 H e Q) : ET C sc vars H e Q := fun A env ρ φ s hA hE R V => h A env ρ φ s hA hE R (V.sub S)
theorem EX.sub {V0 : Vars} {st : Stmt} {Q : AF → Vars → List AO → Prop} (S : Sub V0 vars) (h : EX C sc V0 H st Q) : EX C sc vars H st Q := fun A env ρ φ s hA hE R V => h A env ρ φ s hA hE R (V.sub S)
theorem EXs.sub {V0 : Vars} {st : List Stmt} {Q : AF → Vars → List AO → Prop} (S : Sub V0 vars) (h : EXs C sc V0 H st Q) : EXs C sc vars H st Q := fun A env ρ φ s hA hE R V => h A env ρ φ s hA hE R (V.sub S)
theorem AS.sub {V0 : Vars} {t : Expr} {v : AV} {Q : Vars → List AO → Prop} (S : Sub V0 vars) (h : AS C sc V0 H t v Q) : AS C sc vars H t v Q := fun A env ρ φ s c hA hE R V => h A env ρ φ s c hA hE R (V.sub S)
inductive NextV {α : Type} (V : α → Vars) (I : Nat → α → List AO → Prop) (n : Nat) (v : Vars) (H : List AO) : Prop
  | mk (m : Nat) (b : α) (lt : m < n) (s : Sub (V b) v) (i : I m b H)
theorem NextV.elim {α : Type} {V : α → Vars} {I : Nat → α → List AO → Prop} {n : Nat} {v : Vars} {H : List AO} {goal : Prop} (it0 : NextV V I n v H) (k : ∀ (m : Nat) (b : α) (lt : m < n) (s : Sub (V b) v) (i : I m b H), goal) : goal := NextV.rec (motive := fun _ => goal) k it0
inductive NextF {α : Type} (V : α → Vars) (J : α → List AO → Prop) (v : Vars) (H : List AO) : Prop
  | mk (b : α) (s : Sub (V b) v) (i : J b H)
theorem NextF.elim {α : Type} {V : α → Vars} {J : α → List AO → Prop} {v : Vars} {H : List AO} {goal : Prop} (it0 : NextF V J v H) (k : ∀ (b : α) (s : Sub (V b) v) (i : J b H), goal) : goal := NextF.rec (motive := fun _ => goal) k it0
theorem NextV.out {α : Type} {V : α → Vars} {I : Nat → α → List AO → Prop} {n : Nat} {v : Vars} {H : List AO} (q : NextV V I n v H) : ∃ m, m < n ∧ ∃ a, Sub (V a) v ∧ I m a H := q.elim fun m b lt s i => ⟨m, lt, b, s, i⟩
@[reducible] noncomputable def whK {α : Type} (C : Cx) (sc : Scope) (V : α → Vars) (a : α) (body : List Stmt) (T Q : AF → Vars → List AO → Prop) : Bool → List AO → Prop := fun b H1 => if b = true then EXs C sc (V a) H1 body T else ∀ v2, Sub (V a) v2 → Q .next v2 H1
@[reducible] noncomputable def forK (C : Cx) (fs : List Nat) (sc : Scope) (body : List Stmt) (T : AF → Vars → List AO → Prop) : Vars → List AO → Prop := fun v2 H2 => EXs (C.hold fs) sc v2 H2 body T
theorem EX_whileV {t : Expr} {body : List Stmt} {pos : Pos} {Q : AF → Vars → List AO → Prop} {α : Type} (V : α → Vars) (I : Nat → α → List AO → Prop)
    (turn : ∀ n a H, I n a H → ET C sc (V a) H t (whK C sc V a body (TurnV (NextV V I n) Q) Q))
    (n : Nat) (a : α) (hs : Sub (V a) vars) (h : I n a H) : EX C sc vars H (.While t body [] pos) Q := by
  refine EX_while (fun n vars H => ∃ a, Sub (V a) vars ∧ I n a H) (fun n vars H w => ?_) n ⟨a, hs, h⟩
  refine w.elim fun a zz1 => zz1.elim fun hs hI => ?_; clear zz1; (try clear w)
  refine ET.mono (ET.sub hs (turn n a H hI)) fun b H1 hb => ?_
  cases b with
  | true =>
    refine if_tt ?_
    exact EXs.sub hs (EXs.mono (Q := TurnV (NextV V I n) Q) hb fun f v2 H2 q => q.mono fun v H q => q.out)
  | false =>
    exact if_ff (P := EXs C sc vars H1 body (TurnV (fun v H => ∃ m, m < n ∧ ∃ a, Sub (V a) v ∧ I m a H) Q)) (show ∀ v2, Sub (V a) v2 → Q .next v2 H1 from hb) vars hs
theorem EX_forV {target iter : Expr} {body : List Stmt} {pos : Pos} {Q : AF → Vars → List AO → Prop} {α : Type} (V : α → Vars) (I : List AV → Nat → α → List AO → Prop) (hfold : ∀ env x, foldedSetIterable iter env x = pure x)
    (h : EVI C sc vars H target iter fun fs xs H1 => NextF V (I xs 0) vars H1 ∧
      (∀ k x a H, xs[k]? = some x → I xs k a H → AS (C.hold fs) sc (V a) H target x (forK C fs sc body (TurnV (NextF V (I xs (k + 1))) Q))) ∧
      ∀ a v2 H, Sub (V a) v2 → I xs xs.length a H → Q .next v2 H) : EX C sc vars H (.For target iter body [] pos) Q :=
  EX_for hfold (fun xs k => NextF V (I xs k)) (EVI.mono h fun fs xs H1 zz1 => zz1.elim fun i0 zz2 => zz2.elim fun st en => ⟨i0, fun k x vars H hk zz1 => zz1.elim fun a hs hI => AS.sub hs (st k x a H hk hI), fun vars H zz1 => zz1.elim fun a hs hI => en a vars H hs hI⟩)
theorem EVI.sub {V0 : Vars} {target iter : Expr} {Q : List Nat → List AV → List AO → Prop} (S : Sub V0 vars) (h : EVI C sc V0 H target iter Q) : EVI C sc vars H target iter Q := fun A env ρ φ s hA hE R V => h A env ρ φ s hA hE R (V.sub S)
theorem lookup_upd_ne {x y : String} {v : AV} (hn : y ≠ x) : (upd x v vars).lookup y = vars.lookup y := upd_ne v hn vars
theorem Sub.upd {V0 : Vars} {x : String} {v : AV} (S : Sub V0 vars) (hn : V0.lookup x = none) : Sub V0 (upd x v vars) := fun y w e => by
  have : y ≠ x := fun z => by subst z; rw [hn] at e; cases e
  rw [upd_ne v this]; exact S y w e
noncomputable def nmOk (scope : Scope) : Expr → Bool
  | .Name x _ => isOwn scope x
  | _ => false
noncomputable def tgOk (scope : Scope) : Expr → Bool
  | .Tuple ts _ _ => ts.all (nmOk scope)
  | e => nmOk scope e
theorem tgs {gens : List Comprehension} {scope : Scope} (h : (gens.all fun g => tgOk scope g.target) = true) : ∀ g' ∈ gens, ∀ y, Tgt y g'.target → ownK scope y := fun g' hg y t => by
  have := List.all_eq_true.mp h g' hg
  generalize g'.target = e at this t
  cases t with
  | name => exact ownK_of this
  | tup h r =>
    have := List.all_eq_true.mp this _ h
    cases r with
    | name => exact ownK_of this
    | tup => cases this
theorem TST_nil {Q : Bool → List AO → Prop} (q : Q true H) : TST C sc vars H [] Q := q
theorem TST_one {c : Expr} {Q : Bool → List AO → Prop} (h : ET C sc vars H c Q) : TST C sc vars H [c] Q := h
theorem CG_nil {elt : Expr} {ys : List AV} {Q : List AV → Vars → List AO → Prop} (hz : ys.length ≤ 16000000) (h : EV C sc vars H elt fun v H1 => Q (ys ++ [v]) vars H1) : CG sc elt [] C vars H ys Q := ⟨hz, h⟩
theorem CG_cons {elt : Expr} {g : Comprehension} {gs : List Comprehension} {ys : List AV} {Q : List AV → Vars → List AO → Prop} (ha : g.is_async = 0) (hf : ∀ env x, foldedSetIterable g.iter env x = pure x)
    (h : EVI C sc vars H g.target g.iter fun fs xs H1 => ∃ Inv : Nat → List AV → Vars → List AO → Prop, Inv 0 ys vars H1 ∧
    (∀ k x zs vars H, xs[k]? = some x → Inv k zs vars H → AS (C.hold fs) sc vars H g.target x fun v2 H2 => TST (C.hold fs) sc v2 H2 g.ifs fun b H3 =>
      if b = true then CG sc elt gs (C.hold fs) v2 H3 zs fun zs' v4 H4 => Inv (k + 1) zs' v4 H4 else Inv (k + 1) zs v2 H3) ∧
    ∀ zs vars H, Inv xs.length zs vars H → Q zs vars H) : CG sc elt (g :: gs) C vars H ys Q := ⟨ha, hf, h⟩
theorem rng_len {a : Int} {n : Nat} : (rng a n).length = n := by simp [rng]
theorem scps_map {α : Type} {n : Nat} {f : α → AV} : ∀ {l : List α}, (∀ x ∈ l, Scp n (f x)) → Scps n (l.map f)
  | [], _ => .nil
  | x :: l, h => .cons (h x List.mem_cons_self) (scps_map fun y hy => h y (List.mem_cons_of_mem _ hy))
end
end
section
set_option genInjectivity true in
structure Tr where
  a : Nat
  b : Nat
  c : Nat
deriving DecidableEq
namespace Tr
noncomputable def sum (t : Tr) : Nat := t.a + t.b + t.c
noncomputable def num (t : Tr) : Nat := 10101 * t.a + 10203 * t.b + 30403 * t.c
noncomputable def le (s t : Tr) : Bool := s.a.ble t.a && s.b.ble t.b && s.c.ble t.c
noncomputable def add (s t : Tr) : Tr := ⟨s.a + t.a, s.b + t.b, s.c + t.c⟩
noncomputable def sub (s t : Tr) : Tr := ⟨s.a - t.a, s.b - t.b, s.c - t.c⟩
noncomputable def top (s t : Tr) : Tr := ⟨max s.a t.a, max s.b t.b, max s.c t.c⟩
noncomputable def col (t : Tr) (k : Nat) : Nat := t.a + t.b * k + t.c * (2 / k * k + k)
end Tr
noncomputable abbrev Rule := Tr × Tr
noncomputable def step1 (t : Tr) : List Rule → Option Tr
  | [] => none
  | r :: rs => if r.1.le t then some ((t.sub r.1).add r.2) else step1 t rs
inductive Down (kept : List Rule) : Nat → Tr → Tr → Prop
  | stop {t} (h : step1 t kept = none) : Down kept 0 t t
  | go {n t u v} (h : step1 t kept = some u) (r : Down kept n u v) : Down kept (n + 1) t v
noncomputable def allTr (n : Nat) : List Tr := (List.range (n + 1)).flatMap fun p => (List.range (n + 1 - p)).map fun q => ⟨p, q, n - p - q⟩
end
section
noncomputable abbrev GKB (B : Base) : Prop := GW KB B
noncomputable def rtab : List (String × Addr) := [("Whitespace", 83), ("_netrclex", 125), ("EXACT_TOKEN_TYPES", 130), ("ISTERMINAL", 139), ("ISNONTERMINAL", 146), ("ISEOF", 153), ("_law_stream", 160), ("_law_written", 165), ("_law_sides", 172), ("_law_pieces", 179), ("_law_lead", 186), ("_law_down", 191), ("_law_run", 196), ("_law_column", 203), ("_law_number", 210), ("_law_all", 215), ("_law_least", 220), ("_law_taken", 225)]
noncomputable def ttab : List String := ["dict", "enumerate", "list", "range", "tuple", "zip"]
noncomputable def ftab : List String := ["chr", "iter", "len", "max", "min", "ord", "sorted", "sum"]
noncomputable def stab : List (String × List Nat) := [("", []), (" ", [32]), ("\t", [9]), ("  \t", [32, 32, 9]), ("\n", [10]), ("\n\t\r ", [10, 9, 13, 32]), ("\"", [34]), ("\\", [92]), ("\n\t\r \\", [10, 9, 13, 32, 92]), ("\"\\", [34, 92]), (".", [46]), ("\r\n\t ", [13, 10, 9, 32]), ("/", [47])]
noncomputable def ctab : List Addr := [83, 125, 139, 146, 153, 160, 165, 172, 179, 186, 191, 196, 203, 210, 215, 220, 225]
theorem rAll (P : Params) : (rtab.all fun p => Str.ofString p.1 != ("__debug__" : Str) && (nsIn (KB P) mainGlobals (Str.ofString p.1) == some (some (.ref p.2)) && ((KB P).lookup p.2).isSome)) = true := by kernel_rfl
theorem tAll (P : Params) : (ttab.all fun n => Str.ofString n != ("__debug__" : Str) && (nsIn (KB P) mainGlobals (Str.ofString n) == some none && (bootBuiltins (Str.ofString n) == some (.type n) && Str.ofString n != ("__name__" : Str)))) = true := by kernel_rfl
theorem fAll (P : Params) : (ftab.all fun n => Str.ofString n != ("__debug__" : Str) && (nsIn (KB P) mainGlobals (Str.ofString n) == some none && (bootBuiltins (Str.ofString n) == some (.builtin n) && Str.ofString n != ("__name__" : Str)))) = true := by kernel_rfl
theorem sAll : (stab.all fun p => decide (Str.ofString p.1 = sOf p.2)) = true := by kernel_rfl
theorem cAll (P : Params) : (ctab.all fun a => keepOk (KB P) (.ref a)) = true := by kernel_rfl
section
variable {C : Cx} {sc : Scope} {vars : Vars} {H : List AO} {n : String} {pos : Pos} {Q : AV → List AO → Prop}
theorem bne_f {a b : Str} (h : (a != b) = true) : (a == b) = false := by rw [← Bool.not_eq_true']; exact h
theorem KBr {a : Addr} (G : GKB C.B) (hx : sc.names.lookup (Str.ofString n) = some .globalImplicit) (h : (rtab.find? fun p => p.1 == n) = some (n, a)) (q : Q (.val (.ref a)) H) : EV C sc vars H (.Name (Str.ofString n) pos) Q := by
  have t := List.all_eq_true.mp (rAll C.B.w.params) _ (List.mem_of_find?_eq_some h)
  rw [Bool.and_eq_true, Bool.and_eq_true, beq_iff_eq] at t
  exact EV_globW G hx t.2.1 (bne_f t.1) (globRefW G t.2.2) q
theorem KBt (G : GKB C.B) (hx : sc.names.lookup (Str.ofString n) = some .globalImplicit) (h : ttab.contains n = true) (q : Q (.val (.type n)) H) : EV C sc vars H (.Name (Str.ofString n) pos) Q := by
  have t := List.all_eq_true.mp (tAll C.B.w.params) _ (List.contains_iff_mem.mp h)
  rw [Bool.and_eq_true, Bool.and_eq_true, Bool.and_eq_true, beq_iff_eq, beq_iff_eq] at t
  exact EV_biW G hx t.2.1 (bne_f t.1) t.2.2.1 (bne_iff_ne.mp t.2.2.2) .ty q
theorem KBf (G : GKB C.B) (hx : sc.names.lookup (Str.ofString n) = some .globalImplicit) (h : ftab.contains n = true) (q : Q (.val (.builtin n)) H) : EV C sc vars H (.Name (Str.ofString n) pos) Q := by
  have t := List.all_eq_true.mp (fAll C.B.w.params) _ (List.contains_iff_mem.mp h)
  rw [Bool.and_eq_true, Bool.and_eq_true, Bool.and_eq_true, beq_iff_eq, beq_iff_eq] at t
  exact EV_biW G hx t.2.1 (bne_f t.1) t.2.2.1 (bne_iff_ne.mp t.2.2.2) .bi q
theorem KBs {l : List Nat} {k : Nat} (h : (stab.find? fun p => p.1 == n) = some (n, l)) (q : Q (.str l) H) : EV C sc vars H (.Constant (.str (Str.ofString n)) k pos) Q := EV_str (of_decide_eq_true (List.all_eq_true.mp sAll _ (List.mem_of_find?_eq_some h))) q
theorem KBc (P : Params) {a : Addr} (h : ctab.contains a = true) : keepOk (KB P) (.ref a) = true := List.all_eq_true.mp (cAll P) a (List.contains_iff_mem.mp h)
theorem KBn_ENDMARKER (P : Params) : ∃ t, nsIn (KB P) mainGlobals (Str.ofString "ENDMARKER") = some (some (.int 0 t)) := ⟨_, by rfl⟩
theorem KBe_ENDMARKER (G : GKB C.B) (hx : sc.names.lookup (Str.ofString "ENDMARKER") = some .globalImplicit) (q : Q (.int 0) H) : EV C sc vars H (.Name (Str.ofString "ENDMARKER") pos) Q := let ⟨_, e⟩ := KBn_ENDMARKER C.B.w.params; EV_globW G hx e (by kernel_rfl) .int q
theorem KBn_NT_OFFSET (P : Params) : ∃ t, nsIn (KB P) mainGlobals (Str.ofString "NT_OFFSET") = some (some (.int 256 t)) := ⟨_, by rfl⟩
theorem KBe_NT_OFFSET (G : GKB C.B) (hx : sc.names.lookup (Str.ofString "NT_OFFSET") = some .globalImplicit) (q : Q (.int 256) H) : EV C sc vars H (.Name (Str.ofString "NT_OFFSET") pos) Q := let ⟨_, e⟩ := KBn_NT_OFFSET C.B.w.params; EV_globW G hx e (by kernel_rfl) .int q
end
end
local macro_rules | `(tactic| km_tabs pj_d) => `(tactic| first | assumption | exact ar7 (by assumption) (by rfl) | exact ar11 (by assumption) (by rfl) | exact ar12 (by assumption) (by rfl) | (simp only [Cx.down, Cx.hold]; omega))
local macro_rules | `(tactic| km_tabs pj) => do
  let q ← `(q ?_ (by kernel_rfl) (by kernel_rfl!) (by with_unfolding_all rfl) (fun _ => by with_unfolding_all rfl) (fun _ _ => by with_unfolding_all rfl) (by assumption) (by decide) (by with_unfolding_all exact Nat.le_of_ble_eq_true rfl) rfl (tgs (by kernel_rfl)))
  let f (y : String) : Array Lean.Term := (y.splitOn ",").toArray.map fun l =>
    let v := (l.splitOn " ").toArray.map fun w => match w.toNat? with | some n => ⟨q.raw[1][n]⟩ | none => Lean.mkIdent (.mkSimple w)
    Lean.Syntax.mkApp (v.getD 0 q) (v.extract 1 v.size)
  let A := f "EV_var 1 1 3 0,EV_int 0,EV_bin 0,EV_methW 6 1 4 0,EV_callW 6 1 4 0,EV_slice 4 0,EV_sub 4 5 0,KBr 6 3 3 0,KBf 6 3 2 0,KBs 3 0,KBt 6 3 2 0,EV_comp 1 9 5 10 0,EV_tuple 1 0"
  let B := f "EX_assign 4 1 0,EX_if 0,EX_ret 0"
  let D := f "OP_add 0,OP_sub 0"
  let E := f "EVs_cons 0,EXs_seq 0,seqK_next 0,EVs_nil 0,EXs_nil 0,SUB_list 7 3 8 0,ET_cmp 1 0,AS_name 1 0,seqK_ret 0,ASs_cons 0,ET_not 0,ET_bool 0,ET_val 5 0,OPT_bool 0,UNP_tup 3 0,CMP_map 1 0,if_tt 0,if_ff 0,EVo_none 0,EVo_some 0"
  `(tactic| with_reducible first | (show EV _ _ _ _ _ _; first $[| refine $A:term]*) | (show EX _ _ _ _ _ _; first $[| refine $B:term]*) | (show OP2 _ _ _ _ _ _; first $[| refine $D:term]*) $[| refine $E:term]* | refine ⟨_, rfl, (by first | exact KBc _ (by kernel_rfl!) | with_unfolding_all rfl), ?_⟩ | refine ⟨_, rfl, ?_⟩ | refine ⟨rfl, ?_⟩)
section
theorem swapsE {ts : List Expr} {v : Expr} {env : Env} {sc : Scope} (h : env.scope = sc) : swappedStores ts v env = swappedStores ts v { scope := sc, locals := 0, globals := 0, cells := [] } := by subst h; rfl
section
variable {C : Cx} {H : List AO}
theorem iseof_ok (G : GKB C.B) (hd : 0 < C.d) {x : Int} {Q : AV → List AO → Prop} (q : Q (.bool (x == 0)) H) : CALL C H (.ref 153) [.int x] Q := by
  refine CALL_pure G.ok hd (names := ["x"]) (by refine fnOk_of (by assumption) (by rfl) rfl (by kernel_rfl) rfl rfl rfl ?_ (by kernel_rfl) (by decide) (by kernel_rfl) rfl rfl rfl; exact bind1 fun _ => rfl) rfl ?_
  repeat km_tabs pj
  with_reducible refine EV_cmp (by kernel_rfl) ?_
  repeat km_tabs pj
  with_reducible refine KBe_ENDMARKER (by assumption) (by with_unfolding_all rfl) ?_
  repeat km_tabs pj
  with_reducible refine OP_eqi ?_
  repeat km_tabs pj
  exact frz_ok (.scp (.bool _)) q rfl
theorem isnonterminal_ok (G : GKB C.B) (hd : 0 < C.d) {x : Int} {Q : AV → List AO → Prop} (q : Q (.bool (decide (256 ≤ x))) H) : CALL C H (.ref 146) [.int x] Q := by
  refine CALL_pure G.ok hd (names := ["x"]) (by refine fnOk_of (by assumption) (by rfl) rfl (by kernel_rfl) rfl rfl rfl ?_ (by kernel_rfl) (by decide) (by kernel_rfl) rfl rfl rfl; exact bind1 fun _ => rfl) rfl ?_
  repeat km_tabs pj
  with_reducible refine EV_cmp (by kernel_rfl) ?_
  repeat km_tabs pj
  with_reducible refine KBe_NT_OFFSET (by assumption) (by with_unfolding_all rfl) ?_
  repeat km_tabs pj
  with_reducible refine OP_ge ?_
  repeat km_tabs pj
  exact frz_ok (.scp (.bool _)) q rfl
theorem isterminal_ok (G : GKB C.B) (hd : 0 < C.d) {x : Int} {Q : AV → List AO → Prop} (q : Q (.bool (decide (x < 256))) H) : CALL C H (.ref 139) [.int x] Q := by
  refine CALL_pure G.ok hd (names := ["x"]) (by refine fnOk_of (by assumption) (by rfl) rfl (by kernel_rfl) rfl rfl rfl ?_ (by kernel_rfl) (by decide) (by kernel_rfl) rfl rfl rfl; exact bind1 fun _ => rfl) rfl ?_
  repeat km_tabs pj
  with_reducible refine EV_cmp (by kernel_rfl) ?_
  repeat km_tabs pj
  with_reducible refine KBe_NT_OFFSET (by assumption) (by with_unfolding_all rfl) ?_
  repeat km_tabs pj
  with_reducible refine OP_lt ?_
  repeat km_tabs pj
  exact frz_ok (.scp (.bool _)) q rfl
end
end
section
noncomputable abbrev Tr.av (t : Tr) : AV := .list [.int (t.a : Int), .int (t.b : Int), .int (t.c : Int)]
theorem Tr.scp {n : Nat} (t : Tr) : Scp n t.av := .list (.cons (.int _) (.cons (.int _) (.cons (.int _) .nil)))
theorem nat_pow64 {n : Nat} (h : n < 1000000) : ((n : Int)).natAbs < 2 ^ 64 := by rw [Int.natAbs_natCast]; exact ar1 (by assumption) (by rfl)
section
variable {C : Cx} {H : List AO}
theorem number_ok (G : GKB C.B) (hd : 0 < C.d) {t : Tr} {Q : AV → List AO → Prop} (q : Q (.int (t.num : Int)) H) : CALL C H (.ref 210) [t.av] Q := by
  refine CALL_pure G.ok hd (names := ["some"]) (by refine fnOk_of (by assumption) (by rfl) rfl (by kernel_rfl) rfl rfl rfl ?_ (by kernel_rfl) (by decide) (by kernel_rfl) rfl rfl rfl; exact bind1 fun _ => rfl) rfl ?_
  repeat km_tabs pj
  with_reducible refine OP_mul (.inl (by decide)) ?_
  repeat km_tabs pj
  with_reducible refine OP_mul (.inl (by decide)) ?_
  repeat km_tabs pj
  with_reducible refine OP_mul (.inl (by decide)) ?_
  repeat km_tabs pj
  have e : (10101 * (t.a : Int) + 10203 * (t.b : Int) + 30403 * (t.c : Int)) = (t.num : Int) := by unfold Tr.num; push_cast; rfl
  exact frz_ok (.scp (.int _)) (by rw [e]; exact q) rfl
theorem column_ok (G : GKB C.B) (hd : 0 < C.d) {t : Tr} {k : Nat} (hk : 0 < k) (hk' : k < 1000) {Q : AV → List AO → Prop} (q : Q (.int (t.col k : Int)) H) : CALL C H (.ref 203) [t.av, .int (k : Int)] Q := by
  refine CALL_pure G.ok hd (names := ["some", "size"]) (by refine fnOk_of (by assumption) (by rfl) rfl (by kernel_rfl) rfl rfl rfl ?_ (by kernel_rfl) (by decide) (by kernel_rfl) rfl rfl rfl; exact bind2 fun _ _ => rfl) rfl ?_
  repeat km_tabs pj
  refine OP_mul (.inr (nat_pow64 (ar1 (by assumption) (by rfl)))) ?_
  repeat km_tabs pj
  refine OP_div (by lia) (noPy (by rw [Int.natAbs_natCast]; exact ar1 (by assumption) (by rfl))) ?_
  repeat km_tabs pj
  refine OP_mul (.inr (by rw [Int.natAbs_natCast]; exact ar1 (by assumption) (by rfl))) ?_
  repeat km_tabs pj
  have h1 : (Int.fdiv 2 (k : Int)) = ((2 / k : Nat) : Int) := rfl
  have h2 : 2 / k * k + k < 1000000 := by
    have := Nat.div_mul_le_self 2 k
    lia
  rw [h1]
  have h3 : ((2 / k : Nat) : Int) * (k : Int) + (k : Int) = ((2 / k * k + k : Nat) : Int) := by push_cast; rfl
  rw [h3]
  refine OP_mul (.inr (nat_pow64 h2)) ?_
  repeat km_tabs pj
  have e : (t.a : Int) + (t.b : Int) * (k : Int) + (t.c : Int) * ((2 / k * k + k : Nat) : Int) = (t.col k : Int) := by unfold Tr.col; push_cast; rfl
  exact frz_ok (.scp (.int _)) (by rw [e]; exact q) rfl
theorem step1_drop {t : Tr} {kept : List Rule} {k : Nat} {r : Rule} (h : kept[k]? = some r) : step1 t (kept.drop k) = if r.1.le t then some ((t.sub r.1).add r.2) else step1 t (kept.drop (k + 1)) := by
  refine (List.getElem?_eq_some_iff.mp h).elim fun hk e => ?_
  rw [List.drop_eq_getElem_cons hk, e]; rfl
theorem Tr.le_iff {s t : Tr} : s.le t = true ↔ s.a ≤ t.a ∧ s.b ≤ t.b ∧ s.c ≤ t.c := by
  unfold Tr.le; simp [Nat.ble_eq, and_assoc]
theorem down_ok (G : GKB C.B) (hd : 1 < C.d) {kv : AV} {kept : List Rule} {n : Nat} {t u : Tr} (hk : IsL H kv (kept.map fun r => .tup [r.1.av, r.2.av])) (hz : kept.length ≤ 1000) (hn : Down kept n t u) {Q : AV → List AO → Prop} (q : Q u.av H) : CALL C H (.ref 191) [t.av, kv] Q := by
  refine CALL_pure G.ok (ar7 (by assumption) (by rfl)) (names := ["some", "kept"]) (by refine fnOk_of (by assumption) (by rfl) rfl (by kernel_rfl) rfl rfl rfl ?_ (by kernel_rfl) (by decide) (by kernel_rfl) rfl rfl rfl; exact bind2 fun _ _ => rfl) rfl ?_
  dsimp only
  repeat km_tabs pj
  have hlen : (kept.map fun r => AV.tup [r.1.av, r.2.av]).length ≤ 16777216 := by rw [List.length_map]; exact ar1 (by assumption) (by rfl)
  refine EX_whileV (fun (p : Tr × Nat) => [("some", p.1.av), ("kept", kv), ("k", .int (p.2 : Int))])
    (fun m p H' => H' = H ∧ ∃ n', p.2 ≤ kept.length ∧ step1 p.1 (kept.drop p.2) = step1 p.1 kept ∧ Down kept n' p.1 u ∧ m = n' * (kept.length + 1) + (kept.length - p.2)) ?_ (n * (kept.length + 1) + kept.length) (t, 0) ?_ ?_
  · rintro m ⟨t', k⟩ H' ⟨rfl, n', hkl, hst, hdn, rfl⟩
    dsimp only at hkl hst hdn ⊢
    repeat km_tabs pj
    refine CALL_len hk hlen ?_
    repeat km_tabs pj
    with_reducible refine OP_lt ?_
    repeat km_tabs pj
    refine if_dec (fun hlt => ?_) (fun hge => ?_)
    · rw [List.length_map] at hlt
      have hlt' : k < kept.length := by exact ai2 (by assumption)
      have hgk : kept[k]? = some kept[k] := List.getElem?_eq_getElem hlt'
      generalize kept[k] = r at hgk
      repeat km_tabs pj
      with_reducible refine EX_assign_to (fun _ => by with_unfolding_all rfl) (fun _ _ => by with_unfolding_all rfl) (fun _ => by with_unfolding_all rfl) ?_
      repeat km_tabs pj
      refine SUB_L hk (by exact ai1 ) (v := .tup [r.1.av, r.2.av]) (by rw [Int.toNat_natCast, List.getElem?_map, hgk]; rfl) hlen ?_
      repeat km_tabs pj
      with_reducible refine AS_tuple (by kernel_rfl) ?_
      repeat km_tabs pj
      with_reducible refine ASs_nil ?_
      repeat km_tabs pj
      with_reducible refine EX_aug (by kernel_rfl) (by with_unfolding_all rfl) ?_
      repeat km_tabs pj
      with_reducible refine OP_iadd ?_
      repeat km_tabs pj
      with_reducible refine ETs_cons ?_
      repeat km_tabs pj
      with_reducible refine OP_ge ?_
      repeat km_tabs pj
      have hno : ¬ (r.1.a ≤ t'.a ∧ r.1.b ≤ t'.b ∧ r.1.c ≤ t'.c) → step1 t' (kept.drop (k + 1)) = step1 t' kept := fun z => by
        rw [← hst, step1_drop hgk, if_neg fun w => z (Tr.le_iff.mp w)]
      have no : ¬ (r.1.a ≤ t'.a ∧ r.1.b ≤ t'.b ∧ r.1.c ≤ t'.c) → ∀ v2, v2 = upd "k" (AV.int (↑k + 1)) (upd "small" r.2.av (upd "big" r.1.av [("some", t'.av), ("kept", kv), ("k", AV.int ↑k)])) →
          ∃ (m : Nat) (b : Tr × Nat), m < n' * (kept.length + 1) + (kept.length - k) ∧ Sub [("some", b.1.av), ("kept", kv), ("k", AV.int ↑b.2)] v2 ∧ (H' = H' ∧ ∃ n', b.2 ≤ kept.length ∧ step1 b.1 (kept.drop b.2) = step1 b.1 kept ∧ Down kept n' b.1 u ∧ m = n' * (kept.length + 1) + (kept.length - b.2)) := fun z v2 e => by
        subst e
        exact ⟨n' * (kept.length + 1) + (kept.length - (k + 1)), (t', k + 1), by lia, .cons rfl (.cons rfl (.cons rfl .nil)), rfl, n', hlt', hno z, hdn, rfl⟩
      refine if_dec (fun ha => ?_) (fun ha => ?_)
      · repeat km_tabs pj
        with_reducible refine ETs_cons ?_
        repeat km_tabs pj
        with_reducible refine OP_ge ?_
        repeat km_tabs pj
        refine if_dec (fun hb => ?_) (fun hb => ?_)
        · repeat km_tabs pj
          with_reducible refine ETs_cons ?_
          repeat km_tabs pj
          with_reducible refine OP_ge ?_
          repeat km_tabs pj
          refine if_dec (fun hc => ?_) (fun hc => ?_)
          · repeat km_tabs pj
            with_reducible refine ETs_nil ?_
            repeat km_tabs pj
            with_reducible refine EX_assign' (fun _ hE => swaps_no hE (by kernel_rfl!)) (by kernel_rfl) ?_
            repeat km_tabs pj
            with_reducible refine EVI_range1 (GW.ok (by assumption)) (by kernel_rfl) (fun _ => by with_unfolding_all rfl) ?_
            repeat km_tabs pj
            have ha' : r.1.a ≤ t'.a := by exact ai2 (by assumption)
            have hb' : r.1.b ≤ t'.b := by exact ai2 (by assumption)
            have hc' : r.1.c ≤ t'.c := by exact ai2 (by assumption)
            refine ⟨by decide, [.int ((t'.a : Int) - r.1.a + r.2.a), .int ((t'.b : Int) - r.1.b + r.2.b), .int ((t'.c : Int) - r.1.c + r.2.c)], rfl, Nat.le_of_ble_eq_true rfl, fun j v hj => ?_, ?_⟩
            · have : j < 3 := lt_of_get hj
              have : j = 0 ∨ j = 1 ∨ j = 2 := by exact ar25 (by assumption)
              rcases this with e | e | e <;> subst e <;> (cases hj; repeat km_tabs pj) <;> rfl
            · repeat km_tabs pj
              have e1 : (t'.a : Int) - r.1.a + r.2.a = (((t'.sub r.1).add r.2).a : Nat) := by show _ = ((t'.a - r.1.a + r.2.a : Nat) : Int); exact ai11 (by assumption)
              have e2 : (t'.b : Int) - r.1.b + r.2.b = (((t'.sub r.1).add r.2).b : Nat) := by show _ = ((t'.b - r.1.b + r.2.b : Nat) : Int); exact ai11 (by assumption)
              have e3 : (t'.c : Int) - r.1.c + r.2.c = (((t'.sub r.1).add r.2).c : Nat) := by show _ = ((t'.c - r.1.c + r.2.c : Nat) : Int); exact ai11 (by assumption)
              rw [e1, e2, e3]
              have hs1 : step1 t' kept = some ((t'.sub r.1).add r.2) := by rw [← hst, step1_drop hgk, if_pos (Tr.le_iff.mpr ⟨ha', hb', hc'⟩)]
              cases hdn with
              | stop h => rw [h] at hs1; cases hs1
              | go h rr =>
                rw [h] at hs1; cases hs1
                rename_i n2
                exact ⟨n2 * (kept.length + 1) + kept.length, ((t'.sub r.1).add r.2, 0), by rw [Nat.succ_mul]; exact Nat.le_add_right _ _, .cons rfl (.cons rfl (.cons rfl .nil)), rfl, n2, Nat.zero_le _, rfl, rr, rfl⟩
          · repeat km_tabs pj
            exact let ⟨m, b, l, s, i⟩ := no (by lia) _ rfl; ⟨m, b, l, s, i⟩
        · repeat km_tabs pj
          exact let ⟨m, b, l, s, i⟩ := no (by lia) _ rfl; ⟨m, b, l, s, i⟩
      · repeat km_tabs pj
        exact let ⟨m, b, l, s, i⟩ := no (by lia) _ rfl; ⟨m, b, l, s, i⟩
    · have hk' : k = kept.length := by rw [List.length_map] at hge; lia
      subst hk'
      rw [List.drop_length] at hst
      intro v2 hs
      have hu : u = t' := by
        cases hdn with
        | stop h => rfl
        | go h rr => rw [h] at hst; cases hst
      subst hu
      repeat km_tabs pj
      refine EV.sub hs ?_
      repeat km_tabs pj
      exact frz_ok (.scp (.list (.cons (.int _) (.cons (.int _) (.cons (.int _) .nil))))) q rfl
  · exact .cons rfl (.cons rfl (.cons rfl .nil))
  · exact ⟨rfl, n, Nat.zero_le _, rfl, hn, by simp⟩
end
end
section
noncomputable def Tr.lead (t : Tr) : List Nat := (List.replicate t.b [9]).flatten ++ (List.replicate t.c [32, 32, 9]).flatten ++ (List.replicate t.a [32]).flatten
theorem rep_len {α : Type} (n : Nat) (l : List α) : (List.replicate n l).flatten.length = n * l.length := by
  induction n with
  | zero => simp
  | succ n ih => rw [List.replicate_succ, List.flatten_cons, List.length_append, ih, Nat.succ_mul]; exact Nat.add_comm _ _
section
variable {C : Cx} {H : List AO}
theorem lead_ok (G : GKB C.B) (hd : 0 < C.d) {t : Tr} (hz : t.sum ≤ 1000) {Q : AV → List AO → Prop} (q : Q (.str t.lead) H) : CALL C H (.ref 186) [t.av] Q := by
  refine CALL_pure G.ok hd (names := ["some"]) (by refine fnOk_of (by assumption) (by rfl) rfl (by kernel_rfl) rfl rfl rfl ?_ (by kernel_rfl) (by decide) (by kernel_rfl) rfl rfl rfl; exact bind1 fun _ => rfl) rfl ?_
  dsimp only
  unfold Tr.sum at hz
  repeat km_tabs pj
  refine OP_muls (by decide) (by lia) (by exact ai1 ) ?_
  repeat km_tabs pj
  refine OP_muls (by decide) (by lia) (by exact ai1 ) ?_
  refine OP_cat ?_ ?_
  · rw [rep_len, rep_len]; simp; exact ar54 (by assumption) (by rfl)
  repeat km_tabs pj
  refine OP_muls (by decide) (by lia) (by exact ai1 ) ?_
  refine OP_cat ?_ ?_
  · rw [List.length_append, rep_len, rep_len, rep_len]; simp; exact ar53 (by assumption) (by rfl)
  repeat km_tabs pj
  exact frz_ok (.scp (.str _)) q rfl
theorem rng_get {a : Int} {n k : Nat} {v : AV} (h : (rng a n)[k]? = some v) : v = .int (a + (k : Nat)) ∧ k < n := by
  unfold rng at h
  have hk : k < n := by have := lt_of_get h; simpa using this
  rw [List.getElem?_map, List.getElem?_range hk] at h
  cases h; exact ⟨rfl, hk⟩
theorem all_ok (G : GKB C.B) (hd : 0 < C.d) {n : Nat} (hn : n ≤ 10) {Q : AV → List AO → Prop} (q : Q (.list ((allTr n).map Tr.av)) H) : CALL C H (.ref 215) [.int (n : Int)] Q := by
  refine CALL_pure G.ok hd (names := ["size"]) (by refine fnOk_of (by assumption) (by rfl) rfl (by kernel_rfl) rfl rfl rfl ?_ (by kernel_rfl) (by decide) (by kernel_rfl) rfl rfl rfl; exact bind1 fun _ => rfl) rfl ?_
  dsimp only
  repeat km_tabs pj
  unfold CMP
  repeat km_tabs pj
  with_reducible refine EVI_range1 (GW.ok (by assumption)) (by kernel_rfl) (fun _ => by with_unfolding_all rfl) ?_
  repeat km_tabs pj
  have big : ∀ k : Nat, ((List.range k).flatMap fun p => (List.range (n + 1 - p)).map fun q => (⟨p, q, n - p - q⟩ : Tr).av).length ≤ k * 11 := fun k => by
    induction k with
    | zero => simp
    | succ k ih =>
      rw [List.range_succ, List.flatMap_append, List.length_append, Nat.succ_mul]
      have : ([k].flatMap fun p => (List.range (n + 1 - p)).map fun q => (⟨p, q, n - p - q⟩ : Tr).av).length ≤ 11 := by simp; lia
      exact as24 (by assumption) (by assumption)
  refine ⟨by exact ar3 (by assumption) (by rfl), fun k zs vars H' => zs = ((List.range k).flatMap fun p => (List.range (n + 1 - p)).map fun q => (⟨p, q, n - p - q⟩ : Tr).av) ∧ H' = H ∧ Sub [("size", .int (n : Int))] vars, ⟨rfl, rfl, .cons rfl .nil⟩, ?_, ?_⟩
  · intro k x zs vars H' hk zz1; refine zz1.elim fun zz2 zz3 => zz3.elim fun zz4 hs => ?_; clear zz3 zz1; (first | subst zz2 | cases zz2); (first | subst zz4 | cases zz4)
    refine (rng_get hk).elim fun zz1 hk' => ?_; (first | subst zz1 | cases zz1)
    have hk2 : k ≤ n := by exact ar24 (by assumption)
    refine AS_name (by kernel_rfl) (TST_nil (if_tt ?_))
    refine CG_cons rfl (fun _ _ => by with_unfolding_all rfl) ?_
    refine EVI.sub (V0 := [("size", .int (n : Int)), ("p", .int (0 + (k : Int)))]) (.cons (hs.upd rfl _ _ rfl) (.cons (upd_self _ _ _) .nil)) ?_
    repeat km_tabs pj
    with_reducible refine EVI_range1 (GW.ok (by assumption)) (by kernel_rfl) (fun _ => by with_unfolding_all rfl) ?_
    repeat km_tabs pj
    have e1 : ((n : Int) + 1 - (0 + (k : Int))).toNat = n + 1 - k := by lia
    rw [e1]
    refine ⟨by lia, fun j zs vars H'' => zs = ((List.range k).flatMap fun p => (List.range (n + 1 - p)).map fun q => (⟨p, q, n - p - q⟩ : Tr).av) ++ (List.range j).map (fun q => (⟨k, q, n - k - q⟩ : Tr).av) ∧ H'' = H' ∧ Sub [("size", .int (n : Int)), ("p", .int (0 + (k : Int)))] vars,
      ⟨by simp, rfl, .cons (hs.upd rfl _ _ rfl) (.cons (upd_self _ _ _) .nil)⟩, ?_, ?_⟩
    · intro j y zs vars H'' hj zz1; refine zz1.elim fun zz2 zz3 => zz3.elim fun zz4 hs2 => ?_; clear zz3 zz1; (first | subst zz2 | cases zz2); (first | subst zz4 | cases zz4)
      refine (rng_get hj).elim fun zz1 hj' => ?_; (first | subst zz1 | cases zz1)
      refine AS_name (by kernel_rfl) (TST_nil (if_tt ?_))
      refine CG_nil ?_ ?_
      · have := big k
        rw [List.length_append, List.length_map, List.length_range]; lia
      · refine EV.sub (V0 := [("size", .int (n : Int)), ("p", .int (0 + (k : Int))), ("q", .int (0 + (j : Int)))]) (.cons (hs2.upd rfl _ _ rfl) (.cons (hs2.upd rfl _ _ rfl) (.cons (upd_self _ _ _) .nil))) ?_
        refine EV_list (by kernel_rfl) ?_
        repeat km_tabs pj
        refine ⟨Nat.le_of_ble_eq_true rfl, ?_, rfl, hs2.upd rfl⟩
        have e2 : (0 + (k : Int)) = ((k : Nat) : Int) := by exact Int.add_comm _ _
        have e3 : (0 + (j : Int)) = ((j : Nat) : Int) := by exact Int.add_comm _ _
        have e4 : (n : Int) - (k : Int) - (j : Int) = ((n - k - j : Nat) : Int) := by lia
        rw [e2, e3, e4, List.append_assoc, List.range_succ, List.map_append]; rfl
    · intro zs vars H'' zz1; refine zz1.elim fun zz2 zz3 => zz3.elim fun zz4 hs2 => ?_; clear zz3 zz1; (first | subst zz2 | cases zz2); (first | subst zz4 | cases zz4)
      rw [rng_len]
      refine ⟨?_, rfl, fun x v e => hs2 x v ?_⟩
      · rw [List.range_succ, List.flatMap_append]; simp
      · rw [List.lookup_cons] at e ⊢
        cases hb : x == "size" with
        | true => rw [hb] at e; exact e
        | false => rw [hb] at e; cases e
  · intro zs vars H' zz1; refine zz1.elim fun zz2 zz3 => zz3.elim fun zz4 hs => ?_; clear zz3 zz1; (first | subst zz2 | cases zz2); (first | subst zz4 | cases zz4)
    rw [rng_len]
    have e1 : ((n : Int) + 1).toNat = n + 1 := by exact rfl
    rw [e1]
    have e2 : ((List.range (n + 1)).flatMap fun p => (List.range (n + 1 - p)).map fun q => (⟨p, q, n - p - q⟩ : Tr).av) = (allTr n).map Tr.av := by
      unfold allTr
      rw [List.map_flatMap]
      congr 1
      funext p
      rw [List.map_map]; rfl
    rw [e2]
    exact frz_ok (.scp (.list (scps_map fun t _ => t.scp))) q rfl
end
end
section
structure WS where
  n : Nat
  nt : Nat
  b : Nat
  count : List Nat
noncomputable def padTo (count : List Nat) (b : Nat) : List Nat := if count.length ≤ b then count ++ List.replicate (b - count.length + 1) 0 else count
noncomputable def wsGo : List Nat → WS → WS
  | [], s => s
  | c :: r, s => if c = 32 then wsGo r ⟨s.n + 1, s.nt, s.b + 1, s.count⟩ else if c = 9 then wsGo r ⟨s.n + 1, s.nt + 1, 0, (padTo s.count s.b).set s.b ((padTo s.count s.b).getD s.b 0 + 1)⟩ else s
noncomputable def wsOf (l : List Nat) : WS := wsGo l ⟨0, 0, 0, []⟩
noncomputable def WS.fields (s : WS) (l : List Nat) : List (String × AV) := [("raw", .str l), ("n", .int (s.n : Int)), ("nt", .int (s.nt : Int)), ("norm", .tup [.tup (s.count.map fun (k : Nat) => AV.int (k : Int)), .int (s.b : Int)]), ("is_simple", .bool (decide (s.count.length ≤ 1)))]
theorem blockKind_of {sc : Scope} {env : Env} (hE : EnvOk sc env) : env.blockKind = .function := by unfold Env.blockKind; rw [hE.scope, hE.kind]; rfl
theorem set_at {x y : AO} {H K : List AO} : (H ++ x :: K).set H.length y = H ++ y :: K := by
  rw [List.set_append_right _ _ (Nat.le_refl _), Nat.sub_self]; rfl
theorem get_at {x : AO} {H K : List AO} : (H ++ x :: K)[H.length]? = some x := by
  rw [List.getElem?_append_right (Nat.le_refl _), Nat.sub_self]; rfl
theorem get_at1 {x y : AO} {H K : List AO} : (H ++ x :: y :: K)[H.length + 1]? = some y := by
  rw [List.getElem?_append_right (Nat.le_succ _), show H.length + 1 - H.length = 1 by exact ar37]; rfl
theorem get_at2 {x y z : AO} {H K : List AO} : (H ++ x :: y :: z :: K)[H.length + 2]? = some z := by
  rw [List.getElem?_append_right (by exact Nat.le_add_right _ _), show H.length + 2 - H.length = 2 by exact ar38]; rfl
theorem app_at {x y z : AO} {H K : List AO} : (H ++ x :: y :: K) ++ [z] = H ++ x :: y :: (K ++ [z]) := by simp
theorem set_tail {x y z : AO} {H K : List AO} {i : Nat} (h : H.length + 2 ≤ i) : (H ++ x :: y :: K).set i z = H ++ x :: y :: K.set (i - H.length - 2) z := by
  rw [List.set_append_right _ _ (by exact ar22 (by assumption))]
  refine (show ∃ j, i = H.length + 2 + j from ⟨i - (H.length + 2), by lia⟩).elim fun j zz1 => ?_; (first | subst zz1 | cases zz1)
  have e1 : H.length + 2 + j - H.length = (j + 1) + 1 := by lia
  have e2 : H.length + 2 + j - H.length - 2 = j := by lia
  rw [e2, e1]; rfl
theorem get_tail {x y : AO} {H K : List AO} {i : Nat} (h : H.length + 2 ≤ i) : (H ++ x :: y :: K)[i]? = K[i - H.length - 2]? := by
  rw [List.getElem?_append_right (by exact ar22 (by assumption))]
  refine (show ∃ j, i = H.length + 2 + j from ⟨i - (H.length + 2), by lia⟩).elim fun j zz1 => ?_; (first | subst zz1 | cases zz1)
  have e1 : H.length + 2 + j - H.length = (j + 1) + 1 := by lia
  have e2 : H.length + 2 + j - H.length - 2 = j := by lia
  rw [e2, e1]; rfl
theorem padTo_lt {l : List Nat} {b : Nat} : b < (padTo l b).length := by
  unfold padTo; split
  · rw [List.length_append, List.length_replicate]; lia
  · exact ar41 (by assumption)
theorem padTo_le {l : List Nat} {b m : Nat} (h1 : l.length ≤ m) (h2 : b + 1 ≤ m) : (padTo l b).length ≤ m := by
  unfold padTo; split
  · rw [List.length_append, List.length_replicate]; lia
  · exact h1
theorem map_set_int {l : List Nat} {i : Nat} {v : Nat} : (l.map fun (k : Nat) => AV.int (k : Int)).set i (.int (v : Int)) = (l.set i v).map fun (k : Nat) => AV.int (k : Int) := (List.map_set (f := fun (k : Nat) => AV.int (k : Int))).symm
theorem wsGo_tab {r : List Nat} {s : WS} : wsGo (9 :: r) s = wsGo r ⟨s.n + 1, s.nt + 1, 0, (padTo s.count s.b).set s.b ((padTo s.count s.b).getD s.b 0 + 1)⟩ := by rw [wsGo]; simp
theorem if_bool {b : Bool} {P R : Prop} (h1 : b = true → P) (h2 : b = false → R) : if b = true then P else R := by
  cases b with
  | true => exact h1 rfl
  | false => exact h2 rfl
theorem ints_rep (n : Nat) : (List.replicate n [AV.int 0]).flatten = (List.replicate n 0).map fun (k : Nat) => AV.int (k : Int) := by
  induction n with
  | zero => rfl
  | succ n ih => rw [List.replicate_succ, List.flatten_cons, ih, List.replicate_succ]; rfl
theorem one_str {c d : Nat} : (([c] : List Nat) == [d]) = true ↔ c = d := by simp
theorem wsGo_stop {c : Nat} {r : List Nat} {s : WS} (h1 : c ≠ 32) (h2 : c ≠ 9) : wsGo (c :: r) s = s := by
  unfold wsGo; rw [if_neg h1, if_neg h2]
section
variable {C : Cx} {H : List AO}
theorem clsS (P : Params) : ∃ t, findCls (KB P) (.ref 83) (.type "type") (Str.ofString "S") = some (CFound.val (.str (Str.ofString " ") t)) := ⟨_, by rfl⟩
theorem clsT (P : Params) : ∃ t, findCls (KB P) (.ref 83) (.type "type") (Str.ofString "T") = some (CFound.val (.str (Str.ofString "\t") t)) := ⟨_, by rfl⟩
theorem getS (G : GKB C.B) : GETA C H (.val (.ref 83)) (Str.ofString "S") (.str [32]) := by
  refine (clsS C.B.w.params).elim fun t e => ?_
  exact GETA_cls G.ok (mc := .type "type") (by rw [G.K]; kernel_rfl) (by rw [G.K]; kernel_rfl) (by rw [G.K]; exact e) rfl (fun ρ φ h => by
    have : Str.ofString " " = sOf [32] := by kernel_rfl
    rw [this]; exact .str _ _)
theorem getT (G : GKB C.B) : GETA C H (.val (.ref 83)) (Str.ofString "T") (.str [9]) := by
  refine (clsT C.B.w.params).elim fun t e => ?_
  exact GETA_cls G.ok (mc := .type "type") (by rw [G.K]; kernel_rfl) (by rw [G.K]; kernel_rfl) (by rw [G.K]; exact e) rfl (fun ρ φ h => by
    have : Str.ofString "\t" = sOf [9] := by kernel_rfl
    rw [this]; exact .str _ _)
theorem clsW (G : GKB C.B) : ClsOk C.B 83 38 := ⟨by rw [G.K]; kernel_rfl, by rw [G.K]; kernel_rfl, by rw [G.K]; kernel_rfl⟩
theorem white_ok (G : GKB C.B) (hd : 3 < C.d) (hF : FOk C H.length) {l : List Nat} (hz : l.length ≤ 1000) {Q : AV → List AO → Prop} (q : Q (.inst 83 ((wsOf l).fields l)) H) : CALL C H (.ref 83) [.str l] Q := by
  refine CALL_newF (as := []) G.ok (by exact ar7 (by assumption) (by rfl)) (clsW G) (names := ["self", "ws"]) (by refine fnOk_of (by assumption) (by rfl) rfl (by kernel_rfl) rfl rfl rfl ?_ (by kernel_rfl) (by decide) (by kernel_rfl) rfl rfl rfl; exact bind2 fun _ _ => rfl) rfl ?_
  dsimp only
  rw [show H ++ [AO.ns []] ++ [AO.inst 83 H.length] = H ++ .ns [] :: .inst 83 H.length :: [] by simp]
  repeat km_tabs pj
  with_reducible refine EX_attr (fun _ => by with_unfolding_all rfl) ?_
  repeat km_tabs pj
  refine SETA_ref G.ok (c := 83) (as := []) (d := H.length) (by rw [G.K]; kernel_rfl) get_at1 get_at (hF.nin (Nat.le_refl _)) (by simp) ?_
  rw [set_at, show upd "raw" (.str l) [] = [("raw", AV.str l)] from rfl]
  repeat km_tabs pj
  refine EX_swap ["S", "T"] (fun _ => by with_unfolding_all rfl) (fun _ hE => (swapsE hE.scope).trans (by kernel_rfl)) (by kernel_rfl) ?_
  repeat km_tabs pj
  with_reducible refine EV_attr (fun _ => by with_unfolding_all rfl) ?_
  repeat km_tabs pj
  refine ⟨_, getS (by assumption), ?_⟩
  repeat km_tabs pj
  with_reducible refine EV_attr (fun _ => by with_unfolding_all rfl) ?_
  repeat km_tabs pj
  refine ⟨_, getT (by assumption), ?_⟩
  repeat km_tabs pj
  refine ⟨Nat.le_of_ble_eq_true rfl, ?_⟩
  repeat km_tabs pj
  refine EV_listM (by kernel_rfl) ?_
  repeat km_tabs pj
  refine ⟨Nat.le_of_ble_eq_true rfl, ?_⟩
  repeat km_tabs pj
  with_reducible refine EX_three (by kernel_rfl) (by kernel_rfl) (by kernel_rfl) ?_
  repeat km_tabs pj
  refine EX.mono (Q := fun f v H' => f = .next ∧ ∃ (ci : Nat) (J : List AO), Sub [("self", .ref (H.length + 1)), ("count", .ref ci), ("b", .int ((wsOf l).b : Int)), ("n", .int ((wsOf l).n : Int)), ("nt", .int ((wsOf l).nt : Int))] v ∧
      H' = H ++ .ns [("raw", .str l)] :: .inst 83 H.length :: J ∧ H.length + 2 ≤ ci ∧ J[ci - H.length - 2]? = some (.list ((wsOf l).count.map fun (k : Nat) => AV.int (k : Int))) ∧ (wsOf l).count.length ≤ 2000) ?_ ?_
  · refine EX_forV (fun (a : WS × Nat × List AO) => [("self", .ref (H.length + 1)), ("S", .str [32]), ("T", .str [9]), ("count", .ref a.2.1), ("b", .int (a.1.b : Int)), ("n", .int (a.1.n : Int)), ("nt", .int (a.1.nt : Int))])
      (fun xs k a H' => xs = l.map (fun c => .str [c]) ∧ H' = H ++ .ns [("raw", .str l)] :: .inst 83 H.length :: a.2.2 ∧ H'[a.2.1]? = some (.list (a.1.count.map fun (k : Nat) => AV.int (k : Int))) ∧ H.length + 2 ≤ a.2.1 ∧
        wsGo (l.drop k) a.1 = wsOf l ∧ a.1.b ≤ k ∧ a.1.count.length ≤ k + 1) (fun _ _ => by with_unfolding_all rfl) ?_
    repeat km_tabs pj
    with_reducible refine EVI_val ?_
    repeat km_tabs pj
    with_reducible refine EV_attr (fun _ => by with_unfolding_all rfl) ?_
    repeat km_tabs pj
    refine ⟨_, GETA_ref G.ok (c := 83) (by rw [G.K]; kernel_rfl) (by rw [List.append_assoc]; exact get_at1) (by rw [List.append_assoc]; exact get_at) (by rfl) (fun _ h => by cases h), ?_⟩
    refine ITV_str ?_
    refine ⟨⟨(⟨0, 0, 0, []⟩, H.length + 2, [.list []]), .cons rfl (.cons rfl (.cons rfl (.cons ?_ (.cons rfl (.cons rfl (.cons rfl .nil)))))), rfl, by rw [List.append_assoc]; rfl, by rw [List.append_assoc]; exact get_at2, Nat.le_refl _, rfl, Nat.le_refl _, by simp⟩, ?_, ?_⟩
    · show some (AV.ref _) = _
      simp
    · rintro k x ⟨st, ci, J⟩ H' hk ⟨-, rfl, hci, hge, hgo, hb, hcl⟩
      dsimp only at hci hge hgo hb hcl ⊢
      rw [List.getElem?_map] at hk
      cases hc : l[k]? with
      | none => rw [hc] at hk; cases hk
      | some c =>
        rw [hc] at hk; cases hk
        have hkl : k < l.length := lt_of_get hc
        have hdrop : l.drop k = c :: l.drop (k + 1) := by
          rw [List.drop_eq_getElem_cons hkl]; congr 1; exact Option.some.inj ((List.getElem?_eq_getElem hkl).symm.trans hc)
        rw [hdrop] at hgo
        repeat km_tabs pj
        with_reducible refine OP_eqs ?_
        repeat km_tabs pj
        refine if_bool (fun e => ?_) (fun e => ?_)
        · have : c = 32 := one_str.mp e
          subst this
          repeat km_tabs pj
          refine ⟨(⟨st.n + 1, st.nt, st.b + 1, st.count⟩, ci, J), .cons rfl (.cons rfl (.cons rfl (.cons rfl (.cons rfl (.cons rfl (.cons rfl .nil)))))), rfl, rfl, hci, hge, ?_, by dsimp only; exact ar47 (by assumption), by dsimp only; exact ar48 (by assumption)⟩
          rw [← hgo]; rfl
        · have hc32 : c ≠ 32 := fun z => by subst z; simp at e
          repeat km_tabs pj
          with_reducible refine OP_eqs ?_
          repeat km_tabs pj
          refine if_bool (fun e => ?_) (fun e => ?_)
          · have : c = 9 := one_str.mp e
            subst this
            repeat km_tabs pj
            refine CALL_len (.ref hci) (by rw [List.length_map]; lia) ?_
            repeat km_tabs pj
            with_reducible refine OP_ge ?_
            repeat km_tabs pj
            rw [wsGo_tab] at hgo
            refine if_dec (fun hle => ?_) (fun hgt => ?_)
            · rw [List.length_map] at hle
              repeat km_tabs pj
              refine EV_list (by kernel_rfl) ?_
              repeat km_tabs pj
              refine ⟨Nat.le_of_ble_eq_true rfl, ?_⟩
              repeat km_tabs pj
              refine CALL_len (.ref hci) (by rw [List.length_map]; lia) ?_
              rw [List.length_map]
              repeat km_tabs pj
              refine OP_mull .imm (by exact at9 (by assumption)) (by simp; lia) (by lia) ?_
              have e0 : ((st.b : Int) - (st.count.length : Int) + 1).toNat = st.b - st.count.length + 1 := by exact at8 (by assumption)
              rw [e0, ints_rep]
              refine OP_addlM (.ref hci) .imm (by simp; omega) ?_
              rw [← List.map_append, app_at]
              have ep : st.count ++ List.replicate (st.b - st.count.length + 1) 0 = padTo st.count st.b := by unfold padTo; rw [if_pos (by exact ai2 (by assumption))]
              rw [ep]
              have hl2 : H.length + 2 ≤ (H ++ AO.ns [("raw", AV.str l)] :: AO.inst 83 H.length :: J).length := by simp
              have hci2 : (H ++ AO.ns [("raw", AV.str l)] :: AO.inst 83 H.length :: (J ++ [.list ((padTo st.count st.b).map fun (k : Nat) => AV.int (k : Int))]))[(H ++ AO.ns [("raw", AV.str l)] :: AO.inst 83 H.length :: J).length]? = some (.list ((padTo st.count st.b).map fun (k : Nat) => AV.int (k : Int))) := by
                rw [← app_at]; simp
              generalize (H ++ AO.ns [("raw", AV.str l)] :: AO.inst 83 H.length :: J).length = ci' at hl2 hci2 ⊢
              generalize J ++ [.list ((padTo st.count st.b).map fun (k : Nat) => AV.int (k : Int))] = J' at hci2 ⊢
              repeat km_tabs pj
              with_reducible refine EX_sub (fun _ => by with_unfolding_all rfl) ?_
              repeat km_tabs pj
              have hb1 := padTo_lt (l := st.count) (b := st.b)
              have hb2 := padTo_le (l := st.count) (b := st.b) (m := k + 1) hcl (by exact ar47 (by assumption))
              generalize padTo st.count st.b = cnt at hgo hci2 hb1 hb2 ⊢
              have hgv : (cnt.map fun (k : Nat) => AV.int (k : Int))[((st.b : Nat) : Int).toNat]? = some (.int ((cnt.getD st.b 0 : Nat) : Int)) := by
                rw [Int.toNat_natCast, List.getElem?_map, List.getElem?_eq_getElem hb1, List.getD_eq_getElem?_getD, List.getElem?_eq_getElem hb1]; rfl
              refine SUB_rlist hci2 (by exact ai1) hgv (by rw [List.length_map]; lia) ?_
              repeat km_tabs pj
              refine SETI_list hci2 (hF.nin (by exact ar22 (by assumption))) (by exact ai1) (by rw [List.length_map]; assumption) (by rw [List.length_map]; lia) ?_
              rw [set_tail hl2]
              have e1 : ((cnt.getD st.b 0 : Nat) : Int) + 1 = ((cnt.getD st.b 0 + 1 : Nat) : Int) := by push_cast; rfl
              rw [e1, Int.toNat_natCast, map_set_int]
              repeat km_tabs pj
              refine ⟨(⟨st.n + 1, st.nt + 1, 0, cnt.set st.b (cnt.getD st.b 0 + 1)⟩, ci', _), .cons rfl (.cons rfl (.cons rfl (.cons rfl (.cons rfl (.cons rfl (.cons rfl .nil)))))), rfl, rfl, ?_, hl2, hgo, by dsimp only; exact Nat.le_of_ble_eq_true rfl, by dsimp only; rw [List.length_set]; exact ar48 (by assumption)⟩
              rw [get_tail hl2] at hci2 ⊢
              rw [List.getElem?_set]
              rw [if_pos rfl, if_pos (lt_of_get hci2)]
            · rw [List.length_map] at hgt
              have ep : st.count = padTo st.count st.b := by unfold padTo; rw [if_neg (by lia)]
              rw [ep] at hci
              have hl2 := hge
              have hci2 := hci
              generalize ci = ci' at hl2 hci2 ⊢
              generalize J = J' at hci2 ⊢
              repeat km_tabs pj
              with_reducible refine EX_sub (fun _ => by with_unfolding_all rfl) ?_
              repeat km_tabs pj
              have hb1 := padTo_lt (l := st.count) (b := st.b)
              have hb2 := padTo_le (l := st.count) (b := st.b) (m := k + 1) hcl (by exact ar47 (by assumption))
              generalize padTo st.count st.b = cnt at hgo hci2 hb1 hb2 ⊢
              have hgv : (cnt.map fun (k : Nat) => AV.int (k : Int))[((st.b : Nat) : Int).toNat]? = some (.int ((cnt.getD st.b 0 : Nat) : Int)) := by
                rw [Int.toNat_natCast, List.getElem?_map, List.getElem?_eq_getElem hb1, List.getD_eq_getElem?_getD, List.getElem?_eq_getElem hb1]; rfl
              refine SUB_rlist hci2 (by exact ai1) hgv (by rw [List.length_map]; lia) ?_
              repeat km_tabs pj
              refine SETI_list hci2 (hF.nin (by exact ar22 (by assumption))) (by exact ai1) (by rw [List.length_map]; assumption) (by rw [List.length_map]; lia) ?_
              rw [set_tail hl2]
              have e1 : ((cnt.getD st.b 0 : Nat) : Int) + 1 = ((cnt.getD st.b 0 + 1 : Nat) : Int) := by push_cast; rfl
              rw [e1, Int.toNat_natCast, map_set_int]
              repeat km_tabs pj
              refine ⟨(⟨st.n + 1, st.nt + 1, 0, cnt.set st.b (cnt.getD st.b 0 + 1)⟩, ci', _), .cons rfl (.cons rfl (.cons rfl (.cons rfl (.cons rfl (.cons rfl (.cons rfl .nil)))))), rfl, rfl, ?_, hl2, hgo, by dsimp only; exact Nat.le_of_ble_eq_true rfl, by dsimp only; rw [List.length_set]; exact ar48 (by assumption)⟩
              rw [get_tail hl2] at hci2 ⊢
              rw [List.getElem?_set]
              rw [if_pos rfl, if_pos (lt_of_get hci2)]
          · have hc9 : c ≠ 9 := fun z => by subst z; simp at e
            repeat km_tabs pj
            with_reducible refine EX_brk ?_
            repeat km_tabs pj
            with_reducible refine seqK_brk ?_
            repeat km_tabs pj
            with_reducible refine seqK_brk ?_
            repeat km_tabs pj
            with_reducible refine seqK_brk ?_
            repeat km_tabs pj
            rw [wsGo_stop hc32 hc9] at hgo
            subst hgo
            rw [get_tail hge] at hci
            exact ⟨ci, J, .cons rfl (.cons rfl (.cons rfl (.cons rfl (.cons rfl .nil)))), rfl, hge, hci, by lia⟩
    · rintro ⟨st, ci, J⟩ v2 H' hs ⟨-, rfl, hci, hge, hgo, hb, hcl⟩
      dsimp only at hs hci hge hgo hb hcl ⊢
      rw [List.length_map] at hgo hb hcl
      rw [List.drop_length] at hgo
      have hgo' : st = wsOf l := hgo
      subst hgo'
      exact ⟨rfl, ci, J, .cons (hs _ _ rfl) (.cons (hs _ _ rfl) (.cons (hs _ _ rfl) (.cons (hs _ _ rfl) (.cons (hs _ _ rfl) .nil)))), rfl, hge, by rw [get_tail hge] at hci; exact hci, by lia⟩
  · rintro f v H' ⟨rfl, ci, J, hs, rfl, hge, hci, hcl⟩
    refine seqK_next (EXs.sub hs ?_)
    repeat km_tabs pj
    with_reducible refine EX_attr (fun _ => by with_unfolding_all rfl) ?_
    repeat km_tabs pj
    refine SETA_ref G.ok (c := 83) (as := [("raw", .str l)]) (d := H.length) (by rw [G.K]; kernel_rfl) get_at1 get_at (hF.nin (Nat.le_refl _)) (Nat.le_of_ble_eq_true rfl) ?_
    rw [set_at]; simp only [upd, String.reduceBEq, Bool.false_eq_true, if_false]
    repeat km_tabs pj
    with_reducible refine EX_attr (fun _ => by with_unfolding_all rfl) ?_
    repeat km_tabs pj
    refine SETA_ref G.ok (c := 83) (as := [("raw", .str l), ("n", .int ((wsOf l).n : Int))]) (d := H.length) (by rw [G.K]; kernel_rfl) get_at1 get_at (hF.nin (Nat.le_refl _)) (Nat.le_of_ble_eq_true rfl) ?_
    rw [set_at]; simp only [upd, String.reduceBEq, Bool.false_eq_true, if_false]
    repeat km_tabs pj
    with_reducible refine EX_attr (fun _ => by with_unfolding_all rfl) ?_
    repeat km_tabs pj
    refine CALL_tuple (.ref (by rw [get_tail hge]; exact hci)) (by rw [List.length_map]; exact ar1 (by assumption) (by rfl)) ?_
    repeat km_tabs pj
    refine ⟨Nat.le_of_ble_eq_true rfl, ?_⟩
    repeat km_tabs pj
    refine SETA_ref G.ok (c := 83) (as := [("raw", .str l), ("n", .int ((wsOf l).n : Int)), ("nt", .int ((wsOf l).nt : Int))]) (d := H.length) (by rw [G.K]; kernel_rfl) get_at1 get_at (hF.nin (Nat.le_refl _)) (Nat.le_of_ble_eq_true rfl) ?_
    rw [set_at]; simp only [upd, String.reduceBEq, Bool.false_eq_true, if_false]
    repeat km_tabs pj
    with_reducible refine EX_attr (fun _ => by with_unfolding_all rfl) ?_
    repeat km_tabs pj
    with_reducible refine EV_cmp (by kernel_rfl) ?_
    repeat km_tabs pj
    refine CALL_len (.ref (by rw [get_tail hge]; exact hci)) (by rw [List.length_map]; exact ar1 (by assumption) (by rfl)) ?_
    repeat km_tabs pj
    with_reducible refine OP_le ?_
    repeat km_tabs pj
    refine SETA_ref G.ok (c := 83) (as := [("raw", .str l), ("n", .int ((wsOf l).n : Int)), ("nt", .int ((wsOf l).nt : Int)), ("norm", .tup [.tup ((wsOf l).count.map fun (k : Nat) => AV.int (k : Int)), .int ((wsOf l).b : Int)])]) (d := H.length) (by rw [G.K]; kernel_rfl) get_at1 get_at (hF.nin (Nat.le_refl _)) (Nat.le_of_ble_eq_true rfl) ?_
    rw [set_at]; simp only [upd, String.reduceBEq, Bool.false_eq_true, if_false]
    repeat km_tabs pj
    have e : decide ((((wsOf l).count.map fun (k : Nat) => AV.int (k : Int)).length : Int) ≤ 1) = decide ((wsOf l).count.length ≤ 1) := by
      rw [List.length_map]; exact decide_eq_decide.mpr (by lia)
    rw [e]
    exact ⟨[("raw", .str l), ("n", .int ((wsOf l).n : Int)), ("nt", .int ((wsOf l).nt : Int)), ("norm", .tup [.tup ((wsOf l).count.map fun (k : Nat) => AV.int (k : Int)), .int ((wsOf l).b : Int)]), ("is_simple", .bool (decide ((wsOf l).count.length ≤ 1)))], J, by simp, (wsOf l).fields l, rfl, .cons (.scp (.str _)) (.cons (.scp (.int _)) (.cons (.scp (.int _)) (.cons (.scp (.tup (.cons (.tup (scps_map fun _ _ => .int _)) (.cons (.int _) .nil)))) (.cons (.scp (.bool _)) .nil)))), q⟩
end
end
section
noncomputable def WS.run (s : WS) : Nat := max (s.count.length - 1) s.b
noncomputable def WS.lsum (s : WS) (k n : Nat) : Nat := ((List.range n).map fun j => (k + j) / k * s.count.getD (k + j) 0).sum
noncomputable def WS.level (s : WS) (k : Nat) : Nat := s.b + k * (s.lsum k (s.count.length - k) + s.nt)
noncomputable abbrev WS.normAv (s : WS) : AV := .tup [.tup (s.count.map fun (k : Nat) => AV.int (k : Int)), .int (s.b : Int)]
noncomputable def WS.rows (s t : WS) (n : Nat) : List (Nat × Nat × Nat) := ((List.range n).map fun j => (j + 1, s.level (j + 1), t.level (j + 1))).filter fun r => r.2.1 != r.2.2
noncomputable def rowAv (r : Nat × Nat × Nat) : AV := .tup [.int (r.1 : Int), .int (r.2.1 : Int), .int (r.2.2 : Int)]
theorem WS.lsum_succ (s : WS) (k n : Nat) : s.lsum k (n + 1) = s.lsum k n + (k + n) / k * s.count.getD (k + n) 0 := by
  unfold WS.lsum; rw [List.range_succ, List.map_append, List.sum_append]; simp
theorem WS.rows_succ (s t : WS) (n : Nat) : s.rows t (n + 1) = s.rows t n ++ if s.level (n + 1) = t.level (n + 1) then [] else [(n + 1, s.level (n + 1), t.level (n + 1))] := by
  unfold WS.rows; rw [List.range_succ, List.map_append, List.filter_append]
  congr 1
  rw [List.map_cons, List.map_nil, List.filter_cons]
  by_cases e : s.level (n + 1) = t.level (n + 1)
  · rw [if_pos e, if_neg (by simpa using e)]; rfl
  · rw [if_neg e, if_pos (by simpa using e)]; rfl
theorem WS.rows_len (s t : WS) (n : Nat) : (s.rows t n).length ≤ n := by
  unfold WS.rows; refine Nat.le_trans (List.length_filter_le _ _) ?_; rw [List.length_map, List.length_range]; exact Nat.le_refl _
theorem rowAv_scp {n : Nat} (r : Nat × Nat × Nat) : Scp n (rowAv r) := .tup (.cons (.int _) (.cons (.int _) (.cons (.int _) .nil)))
theorem frz_of {n : Nat} : ∀ {l : List AV}, Scps n l → Frzs n H l l
  | [], _ => .nil
  | _ :: _, .cons h r => .cons (.scp h) (frz_of r)
theorem WS.len_le (s : WS) : s.count.length ≤ s.run + 1 := Nat.sub_le_iff_le_add.mp (Nat.le_max_left _ _)
section
variable {C : Cx} {H : List AO}
theorem ga_norm (G : GKB C.B) {s : WS} {l : List Nat} : GETA C H (.inst 83 (s.fields l)) (Str.ofString "norm") s.normAv := GETA_inst G.ok (by rw [G.K]; kernel_rfl) rfl (fun _ h => by cases h)
theorem ga_nt (G : GKB C.B) {s : WS} {l : List Nat} : GETA C H (.inst 83 (s.fields l)) (Str.ofString "nt") (.int (s.nt : Int)) := GETA_inst G.ok (by rw [G.K]; kernel_rfl) rfl (fun _ h => by cases h)
theorem ga_n (G : GKB C.B) {s : WS} {l : List Nat} : GETA C H (.inst 83 (s.fields l)) (Str.ofString "n") (.int (s.n : Int)) := GETA_inst G.ok (by rw [G.K]; kernel_rfl) rfl (fun _ h => by cases h)
theorem gm_run (G : GKB C.B) {s : WS} {l : List Nat} : GETM C H (.inst 83 (s.fields l)) (Str.ofString "longest_run_of_spaces") (.ref 45) := GETM_inst G.ok (by rw [G.K]; kernel_rfl) rfl
theorem gm_level (G : GKB C.B) {s : WS} {l : List Nat} : GETM C H (.inst 83 (s.fields l)) (Str.ofString "indent_level") (.ref 52) := GETM_inst G.ok (by rw [G.K]; kernel_rfl) rfl
theorem gm_wit (G : GKB C.B) {s : WS} {l : List Nat} : GETM C H (.inst 83 (s.fields l)) (Str.ofString "not_equal_witness") (.ref 66) := GETM_inst G.ok (by rw [G.K]; kernel_rfl) rfl
theorem gm_append {i : Nat} {xs : List AV} (h : H[i]? = some (.list xs)) : GETM C H (.ref i) (Str.ofString "append") (.builtin "list.append") := GETM_b (.rlist h) PySem.F.plainAttrs_list PySem.F.slot_list_append rfl
theorem run_ok (G : GKB C.B) (hd : 0 < C.d) {s : WS} {l : List Nat} (hz : s.count.length ≤ 2000) {Q : AV → List AO → Prop} (q : Q (.int (s.run : Int)) H) : CALL C H (.ref 45) [.inst 83 (s.fields l)] Q := by
  refine CALL_pure G.ok hd (names := ["self"]) (by refine fnOk_of (by assumption) (by rfl) rfl (by kernel_rfl) rfl rfl rfl ?_ (by kernel_rfl) (by decide) (by kernel_rfl) rfl rfl rfl; exact bind1 fun _ => rfl) rfl ?_
  repeat km_tabs pj
  with_reducible refine EX_assign_to (fun _ => by with_unfolding_all rfl) (fun _ _ => by with_unfolding_all rfl) (fun _ => by with_unfolding_all rfl) ?_
  repeat km_tabs pj
  with_reducible refine EV_attr (fun _ => by with_unfolding_all rfl) ?_
  repeat km_tabs pj
  refine ⟨_, ga_norm (by assumption), ?_⟩
  repeat km_tabs pj
  with_reducible refine AS_tuple (by kernel_rfl) ?_
  repeat km_tabs pj
  with_reducible refine ASs_nil ?_
  repeat km_tabs pj
  refine CALL_lent (by rw [List.length_map]; exact ar1 (by assumption) (by rfl)) ?_
  repeat km_tabs pj
  refine CALL_max2 ?_
  repeat km_tabs pj
  have e : max (((s.count.map fun (k : Nat) => AV.int (k : Int)).length : Int) - 1) (s.b : Int) = (s.run : Int) := by rw [List.length_map]; exact cmx1 _ _
  rw [e]
  exact frz_ok (.scp (.int _)) q rfl
theorem level_ok (G : GKB C.B) (hd : 0 < C.d) {s : WS} {l : List Nat} {k : Nat} (hk : 0 < k) (hk2 : k ≤ 3000) (hz : s.count.length ≤ 2000) {Q : AV → List AO → Prop} (q : Q (.int (s.level k : Int)) H) : CALL C H (.ref 52) [.inst 83 (s.fields l), .int (k : Int)] Q := by
  refine CALL_pure G.ok hd (names := ["self", "tabsize"]) (by refine fnOk_of (by assumption) (by rfl) rfl (by kernel_rfl) rfl rfl rfl ?_ (by kernel_rfl) (by decide) (by kernel_rfl) rfl rfl rfl; exact bind2 fun _ _ => rfl) rfl ?_
  repeat km_tabs pj
  with_reducible refine EX_assign_to (fun _ => by with_unfolding_all rfl) (fun _ _ => by with_unfolding_all rfl) (fun _ => by with_unfolding_all rfl) ?_
  repeat km_tabs pj
  with_reducible refine EV_attr (fun _ => by with_unfolding_all rfl) ?_
  repeat km_tabs pj
  refine ⟨_, ga_norm (by assumption), ?_⟩
  repeat km_tabs pj
  with_reducible refine AS_tuple (by kernel_rfl) ?_
  repeat km_tabs pj
  with_reducible refine ASs_nil ?_
  repeat km_tabs pj
  refine EX_forV (fun (n : Nat) => [("self", .inst 83 (s.fields l)), ("tabsize", .int (k : Int)), ("count", .tup (s.count.map fun (k : Nat) => AV.int (k : Int))), ("trailing", .int (s.b : Int)), ("il", .int (s.lsum k n : Int))])
    (fun xs j n H' => n = j ∧ H' = H ∧ xs = rng (k : Int) (s.count.length - k)) (fun _ _ => by with_unfolding_all rfl) ?_
  repeat km_tabs pj
  with_reducible refine EVI_range2 (GW.ok (by assumption)) (by kernel_rfl) (fun _ => by with_unfolding_all rfl) ?_
  repeat km_tabs pj
  refine CALL_lent (by rw [List.length_map]; exact ar1 (by assumption) (by rfl)) ?_
  rw [List.length_map]
  have e1 : ((s.count.length : Int) - (k : Int)).toNat = s.count.length - k := Int.toNat_sub _ _
  refine ⟨_, _, rfl, rfl, by exact ar1 (by assumption) (by rfl), by exact ar1 (by assumption) (by rfl), ⟨0, .cons rfl (.cons rfl (.cons rfl (.cons rfl (.cons rfl .nil)))), rfl, rfl, by rw [e1]⟩, ?_, ?_⟩
  · intro j x n H' hj zz1; refine zz1.elim fun zz2 zz3 => zz3.elim fun zz4 _ => ?_; clear zz3 zz1; (first | subst zz2 | cases zz2); (first | subst zz4 | cases zz4)
    rw [e1] at hj
    refine (rng_get hj).elim fun zz1 hj' => ?_; (first | subst zz1 | cases zz1)
    have e2 : (k : Int) + (n : Nat) = ((k + n : Nat) : Int) := by push_cast; rfl
    rw [e2]
    repeat km_tabs pj
    refine OP_div (by lia) (noPy (by rw [Int.natAbs_natCast]; exact ar3 (by assumption) (by rfl))) ?_
    repeat km_tabs pj
    have hlt : k + n < s.count.length := by exact ar60 (by assumption)
    refine SUB_tup (by exact ai1 ) (v := .int ((s.count.getD (k + n) 0 : Nat) : Int)) (by
      rw [Int.toNat_natCast, List.getElem?_map, List.getElem?_eq_getElem hlt, List.getD_eq_getElem?_getD, List.getElem?_eq_getElem hlt]; rfl) (by rw [List.length_map]; exact ar1 (by assumption) (by rfl)) ?_
    have e3 : Int.fdiv ((k + n : Nat) : Int) (k : Int) = (((k + n) / k : Nat) : Int) := by
      rw [Int.fdiv_eq_ediv_of_nonneg _ (Int.natCast_nonneg k)]; exact (Int.natCast_ediv (k + n) k).symm
    rw [e3]
    have e4 : (k + n) / k ≤ k + n := Nat.div_le_self _ _
    refine OP_mul (.inl (nat_pow64 (by lia))) ?_
    repeat km_tabs pj
    refine ⟨n + 1, .cons rfl (.cons rfl (.cons rfl (.cons rfl (.cons ?_ .nil)))), rfl, rfl, by rw [e1]⟩
    rw [WS.lsum_succ]
    show some (AV.int _) = some (AV.int _)
    congr 2
  · intro n v2 H' hs zz1; refine zz1.elim fun zz2 zz3 => zz3.elim fun zz4 _ => ?_; clear zz3 zz1; (first | subst zz2 | cases zz2); (first | subst zz4 | cases zz4)
    rw [e1, rng_len] at hs
    refine seqK_next (EXs.sub hs ?_)
    repeat km_tabs pj
    with_reducible refine EV_attr (fun _ => by with_unfolding_all rfl) ?_
    repeat km_tabs pj
    refine ⟨_, ga_nt (by assumption), ?_⟩
    repeat km_tabs pj
    refine OP_mul (.inl (nat_pow64 (ar3 (by assumption) (by rfl)))) ?_
    repeat km_tabs pj
    have e : (s.b : Int) + (k : Int) * ((s.lsum k (s.count.length - k) : Int) + (s.nt : Int)) = (s.level k : Int) := by unfold WS.level; push_cast; rfl
    rw [e]
    exact frz_ok (.scp (.int _)) q rfl
theorem wit_ok (G : GKB C.B) (hd : 1 < C.d) (hF : FOk C H.length) {s t : WS} {l m : List Nat} (hs : s.run ≤ 1500) (ht : t.run ≤ 1500) {Q : AV → List AO → Prop} (q : Q (.list ((s.rows t (max s.run t.run + 1)).map rowAv)) H) : CALL C H (.ref 66) [.inst 83 (s.fields l), .inst 83 (t.fields m)] Q := by
  have z1 := s.len_le
  have z2 := t.len_le
  refine CALL_pure G.ok (ar7 (by assumption) (by rfl)) (names := ["self", "other"]) (by refine fnOk_of (by assumption) (by rfl) rfl (by kernel_rfl) rfl rfl rfl ?_ (by kernel_rfl) (by decide) (by kernel_rfl) rfl rfl rfl; exact bind2 fun _ _ => rfl) rfl ?_
  repeat km_tabs pj
  refine ⟨_, gm_run (by assumption), by kernel_rfl, ?_⟩
  repeat km_tabs pj
  refine run_ok (by assumption) (by km_tabs pj_d) (Nat.le_trans z1 (Nat.le_trans (Nat.add_le_add_right hs 1) (Nat.le_of_ble_eq_true rfl))) ?_
  repeat km_tabs pj
  refine ⟨_, gm_run (by assumption), by kernel_rfl, ?_⟩
  repeat km_tabs pj
  refine run_ok (by assumption) (by km_tabs pj_d) (Nat.le_trans z2 (Nat.le_trans (Nat.add_le_add_right ht 1) (Nat.le_of_ble_eq_true rfl))) ?_
  repeat km_tabs pj
  refine CALL_max2 ?_
  repeat km_tabs pj
  refine EV_listM (by kernel_rfl) ?_
  repeat km_tabs pj
  refine ⟨Nat.le_of_ble_eq_true rfl, ?_⟩
  repeat km_tabs pj
  rw [cmx]
  have e1 : (((max s.run t.run : Nat) : Int) + 1 + 1 - 1).toNat = max s.run t.run + 1 := by rw [Int.add_sub_cancel]; rfl
  have e0 : max s.run t.run ≤ 1500 := Nat.max_le.mpr ⟨hs, ht⟩
  refine EX_forV (fun (n : Nat) => [("self", .inst 83 (s.fields l)), ("other", .inst 83 (t.fields m)), ("a", .ref H.length)])
    (fun xs j n H' => n = j ∧ H' = H ++ [.list ((s.rows t n).map rowAv)]) (fun _ _ => by with_unfolding_all rfl) ?_
  repeat km_tabs pj
  with_reducible refine EVI_range2 (GW.ok (by assumption)) (by kernel_rfl) (fun _ => by with_unfolding_all rfl) ?_
  repeat km_tabs pj
  refine ⟨_, _, rfl, rfl, by exact Nat.le_of_ble_eq_true rfl, (by rw [show ((max s.run t.run : Nat) : Int) + 1 + 1 = ((max s.run t.run + 1 + 1 : Nat) : Int) from rfl, Int.natAbs_natCast]; exact Nat.le_trans (Nat.add_le_add_right e0 2) (Nat.le_of_ble_eq_true rfl)), ⟨0, .cons rfl (.cons rfl (.cons rfl .nil)), rfl, rfl⟩, ?_, ?_⟩
  · intro j x n H' hj zz1; refine zz1.elim fun zz2 zz3 => ?_; clear zz1; (first | subst zz2 | cases zz2); (first | subst zz3 | cases zz3)
    rw [e1] at hj
    refine (rng_get hj).elim fun zz1 hj' => ?_; (first | subst zz1 | cases zz1)
    have e2 : (1 : Int) + (n : Nat) = ((n + 1 : Nat) : Int) := by push_cast; exact Int.add_comm _ _
    rw [e2]
    have z3 := s.rows_len t n
    have hk3 : n + 1 ≤ 3000 := Nat.le_trans hj' (Nat.le_trans (Nat.add_le_add_right e0 1) (Nat.le_of_ble_eq_true rfl))
    have L : ∀ {K : List AO} {Q : AV → List AO → Prop}, Q (.int (s.level (n + 1) : Int)) K → CALL (C.down.hold []) K (.ref 52) [.inst 83 (s.fields l), .int ((n + 1 : Nat) : Int)] Q := fun h => level_ok (C := C.down.hold []) G (by km_tabs pj_d) (by exact Nat.le_of_ble_eq_true rfl) hk3 (Nat.le_trans z1 (Nat.le_trans (Nat.add_le_add_right hs 1) (Nat.le_of_ble_eq_true rfl))) h
    have M : ∀ {K : List AO} {Q : AV → List AO → Prop}, Q (.int (t.level (n + 1) : Int)) K → CALL (C.down.hold []) K (.ref 52) [.inst 83 (t.fields m), .int ((n + 1 : Nat) : Int)] Q := fun h => level_ok (C := C.down.hold []) G (by km_tabs pj_d) (by exact Nat.le_of_ble_eq_true rfl) hk3 (Nat.le_trans z2 (Nat.le_trans (Nat.add_le_add_right ht 1) (Nat.le_of_ble_eq_true rfl))) h
    repeat km_tabs pj
    refine ⟨_, gm_level (by assumption), by kernel_rfl, ?_⟩
    repeat km_tabs pj
    refine L ?_
    repeat km_tabs pj
    refine ⟨_, gm_level (by assumption), by kernel_rfl, ?_⟩
    repeat km_tabs pj
    refine M ?_
    repeat km_tabs pj
    with_reducible refine OP_nei ?_
    repeat km_tabs pj
    refine if_bool (fun e => ?_) (fun e => ?_)
    · have e' : s.level (n + 1) ≠ t.level (n + 1) := fun z => by rw [z] at e; simp at e
      have hat : (H ++ [AO.list ((s.rows t n).map rowAv)])[H.length]? = some (.list ((s.rows t n).map rowAv)) := get_at
      repeat km_tabs pj
      with_reducible refine EX_expr (fun _ => by with_unfolding_all rfl) ?_
      repeat km_tabs pj
      refine ⟨_, gm_append hat, by kernel_rfl, ?_⟩
      repeat km_tabs pj
      refine ⟨_, gm_level (by assumption), by kernel_rfl, ?_⟩
      repeat km_tabs pj
      refine L ?_
      repeat km_tabs pj
      refine ⟨_, gm_level (by assumption), by kernel_rfl, ?_⟩
      repeat km_tabs pj
      refine M ?_
      repeat km_tabs pj
      refine ⟨Nat.le_of_ble_eq_true rfl, ?_⟩
      refine CALL_append hat (hF.nin (Nat.le_refl _)) (by rw [List.length_map]; lia) ?_
      rw [set_at]
      repeat km_tabs pj
      refine ⟨n + 1, .cons rfl (.cons rfl (.cons rfl .nil)), rfl, ?_⟩
      rw [WS.rows_succ, if_neg e', List.map_append]; rfl
    · have e' : s.level (n + 1) = t.level (n + 1) := by
        by_cases z : s.level (n + 1) = t.level (n + 1)
        · exact z
        · have : (s.level (n + 1) : Int) ≠ t.level (n + 1) := by exact ai9 (by assumption)
          simp [this] at e
      repeat km_tabs pj
      refine ⟨n + 1, .cons rfl (.cons rfl (.cons rfl .nil)), rfl, ?_⟩
      rw [WS.rows_succ, if_pos e', List.append_nil]
  · intro n v2 H' hs2 zz1; refine zz1.elim fun zz2 zz3 => ?_; clear zz1; (first | subst zz2 | cases zz2); (first | subst zz3 | cases zz3)
    rw [e1, rng_len]
    refine seqK_next (EXs.sub hs2 ?_)
    repeat km_tabs pj
    exact ⟨_, .rlist (Nat.le_refl _) get_at (frz_of (scps_map fun r _ => rowAv_scp r)), q⟩
end
end
section
noncomputable def downF (kept : List Rule) : Nat → Tr → Option Tr
  | 0, _ => none
  | n + 1, t => match step1 t kept with
    | none => some t
    | some u => downF kept n u
theorem down_of {kept : List Rule} : ∀ {n : Nat} {t u : Tr}, downF kept n t = some u → ∃ m, Down kept m t u
  | 0, _, _, h => by cases h
  | n + 1, t, u, h => by
    unfold downF at h
    split at h
    · rename_i e; cases h; exact ⟨0, .stop e⟩
    · rename_i v e; obtain ⟨m, hm⟩ := down_of h; exact ⟨m + 1, .go e hm⟩
noncomputable def Tr.room (x y : Tr) : Nat := max (max x.a y.a) (if 0 < x.c + y.c then 2 else 0) + 1
noncomputable def rowsT (x y : Tr) : List (Nat × Nat × Nat) := ((List.range (x.room y)).map fun j => (j + 1, x.col (j + 1), y.col (j + 1))).filter fun r => r.2.1 != r.2.2
structure RS where
  queue : List (Tr × Tr)
  kept : List Rule
  asked : List (Tr × Tr)
noncomputable def newPairs (big small : Tr) (kept : List Rule) : List (Tr × Tr) := kept.filterMap fun r =>
  let top := big.top r.1
  if top.sum < big.sum + r.1.sum ∧ top.sum < 5 then some ((top.sub big).add small, (top.sub r.1).add r.2) else none
noncomputable def keepR (x y : Tr) : Tr × Tr := match rowsT x y with
  | [] => (x, y)
  | w :: _ => if w.2.2 < w.2.1 then (x, y) else (y, x)
noncomputable def okR (s : RS) (l r x y : Tr) (q : List (Tr × Tr)) : Bool := (x.sum.ble 4) && (y.sum.ble 4) && (l.sum.ble 4) && (r.sum.ble 4) && (s.kept.length.ble 20) && (q.length.ble 900) && (s.asked.length.ble 200)
noncomputable def nextR (s : RS) (x y : Tr) (q : List (Tr × Tr)) : RS := match rowsT x y with
  | [] => ⟨q, s.kept, s.asked ++ [(x, y)]⟩
  | _ :: _ => ⟨q ++ newPairs (keepR x y).1 (keepR x y).2 s.kept, s.kept ++ [keepR x y], s.asked ++ [(x, y)]⟩
noncomputable def stepR (s : RS) (l r : Tr) (q : List (Tr × Tr)) : Option RS := match downF s.kept 60 l, downF s.kept 60 r with
  | some x, some y => if okR s l r x y q = true then some (nextR s x y q) else none
  | _, _ => none
noncomputable def runF : Nat → RS → Option RS
  | 0, _ => none
  | n + 1, s => match s.queue with
    | [] => some s
    | (l, r) :: q => match stepR s l r q with
      | none => none
      | some s' => runF n s'
noncomputable def smallTr : List Tr := (List.range 5).flatMap allTr
theorem ws_small : (smallTr.all fun t => decide ((wsOf t.lead).b = t.a) && decide ((wsOf t.lead).count.getD 0 0 = t.b) && decide ((wsOf t.lead).count.getD 2 0 = t.c) && decide ((wsOf t.lead).n = t.lead.length) && decide ((wsOf t.lead).count.length ≤ 3)
    && (List.range 5).all fun k => decide ((wsOf t.lead).level (k + 1) = t.col (k + 1))) = true := by decide +kernel
theorem room_small : (smallTr.all fun t => smallTr.all fun u => decide (max (wsOf t.lead).run (wsOf u.lead).run + 1 = t.room u) && decide (t.room u ≤ 5)) = true := by decide +kernel
end
section
noncomputable def rdOf (f : Option (Obj)) : FnDesc := match f with
  | some ⟨_, _, .func fd, _⟩ => (match fd.body with
    | .stmts (.FunctionDef n ps b _ _ _ sc _ _ _ :: _) => ⟨n, fd.qualname ++ ".<locals>." ++ "_law_read", ps, b, sc⟩
    | _ => ⟨"", "", fd.params, [], fd.scope⟩)
  | _ => ⟨"", "", ⟨[], [], none, [], [], none, []⟩, [], default⟩
noncomputable abbrev rd (P : Params) : FnDesc := rdOf ((KB P).lookup 160)
section
variable {C : Cx} {H : List AO}
theorem pieces_ok (G : GKB C.B) (hd : 0 < C.d) {s : WS} {l : List Nat} (hz : s.count.length ≤ 2000) {Q : AV → List AO → Prop} (q : Q (Tr.av ⟨s.b, s.count.getD 0 0, s.count.getD 2 0⟩) H) : CALL C H (.ref 179) [.inst 83 (s.fields l)] Q := by
  refine CALL_pure G.ok hd (names := ["lead"]) (by refine fnOk_of (by assumption) (by rfl) rfl (by kernel_rfl) rfl rfl rfl ?_ (by kernel_rfl) (by decide) (by kernel_rfl) rfl rfl rfl; exact bind1 fun _ => rfl) rfl ?_
  repeat km_tabs pj
  with_reducible refine EV_attr (fun _ => by with_unfolding_all rfl) ?_
  repeat km_tabs pj
  refine ⟨_, ga_norm (by assumption), ?_⟩
  repeat km_tabs pj
  with_reducible refine SUB_tup (by decide) (by with_unfolding_all rfl) (by with_unfolding_all exact Nat.le_of_ble_eq_true rfl) ?_
  repeat km_tabs pj
  refine CALL_listt (by rw [List.length_map]; exact ar1 (by assumption) (by rfl)) ?_
  refine EV_list (by kernel_rfl) ?_
  repeat km_tabs pj
  refine ⟨Nat.le_of_ble_eq_true rfl, ?_⟩
  refine OP_addl .imm .imm (by simp; exact ar1 (by assumption) (by rfl)) ?_
  repeat km_tabs pj
  refine EV_list (by kernel_rfl) ?_
  repeat km_tabs pj
  with_reducible refine EV_attr (fun _ => by with_unfolding_all rfl) ?_
  repeat km_tabs pj
  refine ⟨_, ga_norm (by assumption), ?_⟩
  repeat km_tabs pj
  with_reducible refine SUB_tup (by decide) (by with_unfolding_all rfl) (by with_unfolding_all exact Nat.le_of_ble_eq_true rfl) ?_
  repeat km_tabs pj
  have e : ∀ j, j < 3 → ((s.count.map fun (k : Nat) => AV.int (k : Int)) ++ [.int 0, .int 0, .int 0])[j]? = some (.int ((s.count.getD j 0 : Nat) : Int)) := fun j hj => by
    by_cases h : j < s.count.length
    · rw [List.getElem?_append_left (by rw [List.length_map]; exact h), List.getElem?_map, List.getElem?_eq_getElem h, List.getD_eq_getElem?_getD, List.getElem?_eq_getElem h]; rfl
    · rw [List.getElem?_append_right (by rw [List.length_map]; exact ar42 (by assumption)), List.length_map, List.getD_eq_getElem?_getD, List.getElem?_eq_none (l := s.count) (ar42 (by assumption))]
      have : j - s.count.length = 0 ∨ j - s.count.length = 1 ∨ j - s.count.length = 2 := by omega
      rcases this with q | q | q <;> rw [q] <;> rfl
  refine SUB_list (by decide) (e 0 (by decide)) (by simp; exact ar1 (by assumption) (by rfl)) ?_
  repeat km_tabs pj
  refine SUB_list (by decide) (e 2 (by decide)) (by simp; exact ar1 (by assumption) (by rfl)) ?_
  repeat km_tabs pj
  refine ⟨Nat.le_of_ble_eq_true rfl, ?_⟩
  repeat km_tabs pj
  exact frz_ok (.scp (.list (.cons (.int _) (.cons (.int _) (.cons (.int _) .nil))))) q rfl
theorem stream_ok (G : GKB C.B) (hd : 0 < C.d) {left : AV} {i : Nat} (hi : H[i]? = some (.tab0 155)) (hF : i ∉ C.F) {Q : AV → List AO → Prop} (q : Q (.stream (rd C.B.w.params) left) (H.set i .opaq)) : CALL C H (.ref 160) [left] Q := by
  refine CALL_stream (cA := 159) (P := 155) (r := rd C.B.w.params) G.ok hd (by refine fnOk_of (by assumption) (by rfl) rfl (by kernel_rfl) rfl rfl rfl ?_ (by kernel_rfl) (by decide) (by kernel_rfl) rfl rfl rfl; exact bind1 fun _ => rfl) (by rfl) (codeHd_of_K G.ok.inK (by rw [G.K]; kernel_rfl)) (by rfl) (by rfl) (by rfl) (by rfl) (fun _ => by rfl) (fun _ => by rfl) (fun _ => by rfl) (fun env c hE he => ?_) (by rfl) (by kernel_rfl) (by kernel_rfl) (by kernel_rfl) (fun _ => by rfl) (fun _ => by with_unfolding_all rfl) (fun _ => by with_unfolding_all rfl) hi hF q
  have e : (rd C.B.w.params).scope.names = [(Str.ofString "size", .local), (Str.ofString "left", .free)] := by rfl
  show closureFor (rd C.B.w.params).scope env = _
  unfold closureFor
  rw [e]
  simp [cellOf, he]
noncomputable abbrev signs (l : List Nat) : List AV := l.map fun c => .str [c]
theorem dats_signs {l : List Nat} : Dats H (signs l) (l.map fun c => .str [c]) := by
  induction l with
  | nil => exact .nil
  | cons c r ih => exact .cons (.str _) ih
theorem gm_pop {i : Nat} {xs : List AV} (h : H[i]? = some (.list xs)) : GETM C H (.ref i) (Str.ofString "pop") (.builtin "list.pop") := GETM_b (.rlist h) PySem.F.plainAttrs_list PySem.F.slot_list_pop PySem.F.type_list_pop
theorem read_ok (P : Params) : ∃ e, ReadOk (rd P) e ∧ ∀ (C : Cx) (G : GKB C.B) (H : List AO) (j : Nat) (l : List Nat) (Q : AV → List AO → Prop), H[j]? = some (.list (signs l)) → j ∉ C.F → l.length ≤ 1000000 →
    (l = [] → Q (.str []) H) → (∀ c r, l = c :: r → Q (.str [c]) (H.set j (.list (signs r)))) → EV C (rd P).scope [("size", .int 1), ("left", .ref j)] H e Q := by
  refine ⟨_, ⟨⟨_, by rfl⟩, fun _ _ _ _ _ _ => by rfl, by kernel_rfl, by kernel_rfl, ?_, ?_, rfl, rfl, rfl⟩, fun C G H j l Q hj hF hz q0 q1 => ?_⟩
  · have : (rd P).scope.names.all (fun x => x.2 != .cell) = true := by kernel_rfl
    intro x hx; simpa using List.all_eq_true.mp this x hx
  · have e : (rd P).scope.names = [(Str.ofString "size", .local), (Str.ofString "left", .free)] := by rfl
    intro x h
    rw [e, List.lookup_cons] at h
    split at h
    · cases h
    · rw [List.lookup_cons] at h
      split at h
      · rename_i z; simpa using z
      · cases h
  · repeat km_tabs pj
    with_reducible refine EV_ifexp ?_
    repeat km_tabs pj
    with_reducible refine ETs_cons ?_
    repeat km_tabs pj
    with_reducible refine OP_eqi ?_
    repeat km_tabs pj
    refine if_bool (fun _ => ?_) (fun e => absurd e (by decide))
    repeat km_tabs pj
    with_reducible refine ETs_cons ?_
    repeat km_tabs pj
    refine EV_list (by kernel_rfl) ?_
    repeat km_tabs pj
    refine ⟨Nat.le_of_ble_eq_true rfl, ?_⟩
    refine OP_ned (n := 1) (.ref hj dats_signs) (.list .nil) (.list fun i x y _ h => by simp at h) (by decide) (fun r hr => ?_)
    repeat km_tabs pj
    cases l with
    | nil =>
      have : r = false := by
        cases r with
        | false => rfl
        | true => exact absurd rfl (hr.mp rfl)
      subst this
      repeat km_tabs pj
      exact q0 rfl
    | cons c l =>
      have : r = true := hr.mpr (by simp)
      subst this
      repeat km_tabs pj
      with_reducible refine ETs_nil ?_
      repeat km_tabs pj
      refine ⟨_, gm_pop hj, by kernel_rfl, ?_⟩
      repeat km_tabs pj
      refine CALL_pop0 hj hF (by rw [List.length_map]; simp at hz; exact ar1 (by assumption) (by rfl)) ?_
      exact q1 c l rfl
end
end
section
noncomputable abbrev wds (l : List (List Nat)) : List AV := l.map AV.str
noncomputable abbrev lxA (P : Params) (N : Int) (left : List Nat) : List (String × AV) := [("lineno", .int (N - (left.count 10 : Nat))), ("instream", .stream (rd P) (.ref 1)), ("whitespace", .str [10, 9, 13, 32]), ("pushback", .ref 4)]
noncomputable abbrev LX (P : Params) (N : Int) (left : List Nat) (pb : List (List Nat)) (J : List AO) : List AO := .opaq :: .list (signs left) :: .ns (lxA P N left) :: .inst 125 2 :: .list (wds pb) :: J
noncomputable def FHi (C : Cx) : Prop := ∀ i ∈ C.F, 5 ≤ i
section
variable {C : Cx} {sc : Scope} {vars : Vars} {H : List AO}
theorem FHi.nin (h : FHi C) {i : Nat} (hi : i < 5) : i ∉ C.F := fun q => absurd (h i q) (by lia)
theorem FHi.hold {fs : List Nat} (h : FHi C) (hf : ∀ i ∈ fs, 5 ≤ i) : FHi (C.hold fs) := fun i q => by
  rcases List.mem_append.mp q with q | q
  · exact hf i q
  · exact h i q
theorem EX_forcV {target iter : Expr} {body : List Stmt} {pos : Pos} {Q : AF → Vars → List AO → Prop} {i : Nat} {f : Addr} {self : AV} {α : Type} (V : α → Vars) (O : C.B.Ok) (hd : 0 < C.d) (hfold : ∀ env x, foldedSetIterable iter env x = pure x) (ht : ∀ it v, letOwnedTupleGo target it v = pure ())
    (hf : ∃ oc od fd osl, C.B.K.lookup f = some ⟨oc, od, .func fd, osl⟩) (hF : i ∉ C.F) (I : Nat → α → List AO → Prop)
    (h : EV C sc vars H iter fun v H1 => v = .ref i ∧ ∃ n a, Sub (V a) vars ∧ I n a H1)
    (hst : ∀ n a H, I n a H → H[i]? = some (.citer (.meth f self) (.str [])) ∨ H[i]? = some .cdone)
    (turn : ∀ n a H, I n a H → H[i]? = some (.citer (.meth f self) (.str [])) → CODE C.down H (.ref f) [self] fun r H1 => ∃ l, r = .str l ∧ H1[i]? = some (.citer (.meth f self) (.str [])) ∧ (l = [] → ∀ v, Sub (V a) v → Q .next v (H1.set i .cdone)) ∧
      (l ≠ [] → AS C sc (V a) H1 target (.str l) fun v2 H2 => EXs C sc v2 H2 body (TurnV (NextV V I n) Q)))
    (dn : ∀ n a v H, Sub (V a) v → I n a H → H[i]? = some .cdone → Q .next v H) : EX C sc vars H (.For target iter body [] pos) Q :=
  EX_forc (i := i) (f := f) (self := self) O hd hfold ht hf hF (fun n v H => ∃ a, Sub (V a) v ∧ I n a H) (h.mono fun v H1 zz1 => zz1.elim fun e zz2 => zz2.elim fun n zz3 => zz3.elim fun a zz4 => zz4.elim fun s q => ⟨e, n, a, s, q⟩) (fun n v H zz1 => zz1.elim fun a zz2 => zz2.elim fun s q => hst n a H q)
    (fun n v H zz1 hc => zz1.elim fun a zz2 => zz2.elim fun s q => (turn n a H q hc).mono fun r H1 zz1 => zz1.elim fun l zz2 => zz2.elim fun e1 zz3 => zz3.elim fun e2 zz4 => zz4.elim fun q1 q2 => ⟨l, e1, e2, fun e => q1 e v s, fun e => AS.sub s (AS.mono (q2 e) fun v2 H2 t => EXs.mono t fun f v3 H3 z => z.mono fun v H q => q.out)⟩)
    (fun n v H zz1 hc => zz1.elim fun a zz2 => zz2.elim fun s q => dn n a v H s q hc)
theorem EV_rc (G : GKB C.B) {value : Expr} {pos : Pos} {Q : AV → List AO → Prop} (hev : ∀ env, eval (.Attribute value (Str.ofString "_read_char") pos) env = (do
      let o ← eval value env
      standAt pos.atName
      let r ← holding [o] (getAttr o (Str.ofString "_read_char") true)
      letTemporaryGo value o r
      pure r)) (h : EV C sc vars H value fun o H1 => o = .ref 3 ∧ H1[3]? = some (.inst 125 2) ∧ (∃ as, H1[2]? = some (.ns as) ∧ as.lookup "_read_char" = none) ∧ Q (.meth 108 o) H1) : EV C sc vars H (.Attribute value (Str.ofString "_read_char") pos) Q :=
  EV_bound G.ok hev (h.mono fun o H1 zz1 => zz1.elim fun e zz2 => zz2.elim fun h3 zz3 => zz3.elim fun zz4 q => zz4.elim fun as zz5 => zz5.elim fun h2 hn => ⟨3, 125, 2, as, 108, e, h3, h2, hn, by rw [G.K]; kernel_rfl, by rw [G.K]; kernel_rfl, by rw [G.K]; kernel_rfl, by rw [G.K]; kernel_rfl, by rw [G.K]; kernel_rfl, by rw [G.K]; kernel_rfl, by kernel_rfl, q⟩)
variable {N : Int} {left : List Nat} {pb : List (List Nat)} {J : List AO}
theorem ga_lx (G : GKB C.B) {P : Params} {x : String} {v : AV} (hk : attrOk (KB C.B.w.params) 125 (Str.ofString x) = true) (hv : (lxA P N left).lookup x = some v) (hb : ∀ i, v ≠ .val (.builtin i)) : GETA C (LX P N left pb J) (.ref 3) (Str.ofString x) v := GETA_ref G.ok (c := 125) (d := 2) (by rw [G.K]; exact hk) rfl rfl hv hb
theorem push_ok (G : GKB C.B) (hd : 0 < C.d) (hF : FHi C) {P : Params} {w : List Nat} (hz : pb.length ≤ 1000000) {Q : AV → List AO → Prop} (q : Q .none (LX P N left (pb ++ [w]) J)) : CALL C (LX P N left pb J) (.ref 122) [.ref 3, .str w] Q := by
  refine CALL_fn G.ok hd (names := ["self", "token"]) (by refine fnOk_of (by assumption) (by rfl) rfl (by kernel_rfl) rfl rfl rfl ?_ (by kernel_rfl) (by decide) (by kernel_rfl) rfl rfl rfl; exact bind2 fun _ _ => rfl) rfl ?_
  repeat km_tabs pj
  with_reducible refine EX_expr (fun _ => by with_unfolding_all rfl) ?_
  repeat km_tabs pj
  with_reducible refine EV_attr (fun _ => by with_unfolding_all rfl) ?_
  repeat km_tabs pj
  refine ⟨_, ga_lx (by assumption) (by kernel_rfl) rfl (fun _ h => by cases h), ?_⟩
  repeat km_tabs pj
  refine ⟨_, gm_append (i := 4) (xs := wds pb) rfl, by kernel_rfl, ?_⟩
  repeat km_tabs pj
  refine CALL_append (i := 4) (xs := wds pb) rfl (hF.nin (by decide)) (by rw [List.length_map]; exact ar1 (by assumption) (by rfl)) ?_
  repeat km_tabs pj
  have e : wds pb ++ [AV.str w] = wds (pb ++ [w]) := by simp
  rw [e]; exact q
theorem rc_body (G : GKB C.B) (hd : 1 < C.d) (hF : FHi C) (hz : left.length ≤ 1000000) {Q : AV → List AO → Prop} (q0 : left = [] → Q (.str []) (LX C.B.w.params N [] pb J)) (q1 : ∀ c r, left = c :: r → Q (.str [c]) (LX C.B.w.params N r pb J)) : CODE C (LX C.B.w.params N left pb J) (.ref 108) [.ref 3] Q := by
  refine CODE_fn G.ok (by exact ar7 (by assumption) (by rfl)) (names := ["self"]) (by refine fnOk_of (by assumption) (by rfl) rfl (by kernel_rfl) rfl rfl rfl ?_ (by kernel_rfl) (by decide) (by kernel_rfl) rfl rfl rfl; exact bind1 fun _ => rfl) rfl ?_
  refine (read_ok C.B.w.params).elim fun e zz1 => zz1.elim fun E1 E2 => ?_; clear zz1
  with_reducible refine EXs_seq ?_
  with_reducible refine EX_assign (fun _ => by with_unfolding_all rfl) (by kernel_rfl) ?_
  with_reducible refine EV_read (GW.ok (by assumption)) (by km_tabs pj_d) (by kernel_rfl) (fun _ => by with_unfolding_all rfl) ?_
  repeat km_tabs pj
  with_reducible refine EV_attr (fun _ => by with_unfolding_all rfl) ?_
  repeat km_tabs pj
  refine ⟨_, ga_lx (by assumption) (by kernel_rfl) rfl (fun _ h => by cases h), ?_⟩
  refine ⟨_, _, e, rfl, E1, ?_⟩
  repeat km_tabs pj
  refine E2 C.down.down G (LX C.B.w.params N left pb J) 1 left _ rfl (hF.nin (by decide)) hz (fun e => ?_) (fun c r e => ?_)
  · subst e
    repeat km_tabs pj
    with_reducible refine OP_eqs ?_
    repeat km_tabs pj
    refine if_bool (fun z => absurd z (by decide)) (fun _ => ?_)
    repeat km_tabs pj
    exact q0 rfl
  · subst e
    repeat km_tabs pj
    with_reducible refine OP_eqs ?_
    repeat km_tabs pj
    refine if_bool (fun z => ?_) (fun z => ?_)
    · have : c = 10 := one_str.mp z
      subst this
      repeat km_tabs pj
      with_reducible refine EX_augattr ?_
      repeat km_tabs pj
      refine ⟨_, GETA_ref G.ok (c := 125) (d := 2) (as := lxA C.B.w.params N (10 :: r)) (by rw [G.K]; kernel_rfl) rfl rfl rfl (fun _ h => by cases h), ?_⟩
      repeat km_tabs pj
      with_reducible refine OP_iadd ?_
      repeat km_tabs pj
      refine SETA_ref G.ok (c := 125) (d := 2) (as := lxA C.B.w.params N (10 :: r)) (by rw [G.K]; kernel_rfl) rfl rfl (hF.nin (by decide)) (Nat.le_of_ble_eq_true rfl) ?_
      repeat km_tabs pj
      have e : N - ((10 :: r).count 10 : Nat) + 1 = N - (r.count 10 : Nat) := by rw [List.count_cons]; simp; omega
      have q := q1 10 r rfl
      unfold LX lxA at q
      rw [← e] at q
      exact q
    · have hc : c ≠ 10 := fun y => by subst y; simp at z
      repeat km_tabs pj
      have e : ((c :: r).count 10) = r.count 10 := List.count_cons_of_ne hc
      have q := q1 c r rfl
      unfold LX lxA at q
      rw [← e] at q
      exact q
noncomputable def wsp (c : Nat) : Bool := c == 10 || c == 9 || c == 13 || c == 32
noncomputable def bareT : List Nat → List Nat → List Nat × List Nat
  | t, [] => (t, [])
  | t, [c] => if wsp c then (t, []) else if c = 92 then (t, []) else (t ++ [c], [])
  | t, c :: d :: r => if wsp c then (t, d :: r) else if c = 92 then bareT (t ++ [d]) r else bareT (t ++ [c]) (d :: r)
noncomputable def quotT : List Nat → List Nat → List Nat × List Nat
  | t, [] => (t, [])
  | t, [c] => if c = 34 then (t, []) else if c = 92 then (t, []) else (t ++ [c], [])
  | t, c :: d :: r => if c = 34 then (t, d :: r) else if c = 92 then quotT (t ++ [d]) r else quotT (t ++ [c]) (d :: r)
noncomputable def tokT : List Nat → List Nat × List Nat
  | [] => ([], [])
  | c :: r => if wsp c then tokT r else if c = 34 then quotT [] r else if c = 92 then (match r with | [] => ([], []) | d :: r' => bareT [d] r') else bareT [c] r
theorem bareT_ws {t : List Nat} {c : Nat} {r : List Nat} (h : wsp c = true) : bareT t (c :: r) = (t, r) := by cases r <;> simp [bareT, h]
theorem bareT_esc {t : List Nat} {d : Nat} {r : List Nat} : bareT t (92 :: d :: r) = bareT (t ++ [d]) r := by rw [bareT]; simp [wsp]
theorem bareT_esc0 {t : List Nat} : bareT t [92] = (t, []) := by rw [bareT]; simp [wsp]
theorem bareT_c {t : List Nat} {c : Nat} {r : List Nat} (h : wsp c = false) (h2 : c ≠ 92) : bareT t (c :: r) = bareT (t ++ [c]) r := by cases r <;> simp [bareT, h, h2]
theorem quotT_q {t r : List Nat} : quotT t (34 :: r) = (t, r) := by cases r <;> simp [quotT]
theorem quotT_esc {t : List Nat} {d : Nat} {r : List Nat} : quotT t (92 :: d :: r) = quotT (t ++ [d]) r := by rw [quotT]; simp
theorem quotT_esc0 {t : List Nat} : quotT t [92] = (t, []) := by rw [quotT]; simp
theorem quotT_c {t : List Nat} {c : Nat} {r : List Nat} (h : c ≠ 34) (h2 : c ≠ 92) : quotT t (c :: r) = quotT (t ++ [c]) r := by cases r <;> simp [quotT, h, h2]
theorem wsp_mem {c : Nat} : decide (c ∈ [10, 9, 13, 32]) = wsp c := by
  rw [Bool.eq_iff_iff]; unfold wsp; simp [or_assoc]
theorem tok_pop (G : GKB C.B) (hd : 0 < C.d) (hF : FHi C) {P : Params} {w : List Nat} (hz : pb.length ≤ 1000000) {Q : AV → List AO → Prop} (q : Q (.str w) (LX P N left pb J)) : CALL C (LX P N left (w :: pb) J) (.ref 115) [.ref 3] Q := by
  refine CALL_fn G.ok hd (names := ["self"]) (by refine fnOk_of (by assumption) (by rfl) rfl (by kernel_rfl) rfl rfl rfl ?_ (by kernel_rfl) (by decide) (by kernel_rfl) rfl rfl rfl; exact bind1 fun _ => rfl) rfl ?_
  repeat km_tabs pj
  with_reducible refine EV_attr (fun _ => by with_unfolding_all rfl) ?_
  repeat km_tabs pj
  refine ⟨_, ga_lx (by assumption) (by kernel_rfl) rfl (fun _ h => by cases h), ?_⟩
  repeat km_tabs pj
  refine OPT_list (.ref (xs := wds (w :: pb)) rfl) (by rw [List.length_map, List.length_cons]; exact ar3 (by assumption) (by rfl)) ?_
  refine if_tt ?_
  repeat km_tabs pj
  with_reducible refine EV_attr (fun _ => by with_unfolding_all rfl) ?_
  repeat km_tabs pj
  refine ⟨_, ga_lx (by assumption) (by kernel_rfl) rfl (fun _ h => by cases h), ?_⟩
  repeat km_tabs pj
  refine ⟨_, gm_pop (i := 4) (xs := wds (w :: pb)) rfl, by kernel_rfl, ?_⟩
  repeat km_tabs pj
  refine CALL_pop0 (i := 4) (x := .str w) (xs := wds pb) rfl (hF.nin (by decide)) (by rw [List.length_map]; exact ar1 (by assumption) (by rfl)) ?_
  repeat km_tabs pj
  exact q
end
end
section
section
variable {C : Cx} {sc : Scope} {vars : Vars} {H : List AO} {N : Int} {left : List Nat} {pb : List (List Nat)} {J : List AO}
noncomputable abbrev CI : AO := .citer (.meth 108 (.ref 3)) (.str [])
theorem lx_get {P : Params} {x : AO} : (LX P N left pb (J ++ [x]))[J.length + 5]? = some x := by
  show (J ++ [x])[J.length]? = some x
  rw [List.getElem?_append_right (Nat.le_refl _), Nat.sub_self]; rfl
theorem lx_set {P : Params} {x y : AO} : (LX P N left pb (J ++ [x])).set (J.length + 5) y = LX P N left pb (J ++ [y]) := by
  show AO.opaq :: AO.list (signs left) :: .ns (lxA P N left) :: .inst 125 2 :: .list (wds pb) :: (J ++ [x]).set J.length y = _
  rw [List.set_append_right _ _ (Nat.le_refl _), Nat.sub_self]; rfl
theorem lx_drop {P : Params} {x : AO} {left left' : List Nat} {pb pb' : List (List Nat)} {Q : AV → List AO → Prop} {w : List Nat} (q : Q (.str w) (LX P N left' pb' J)) :
    (LX P N left pb J).length ≤ (LX P N left' pb' (J ++ [x])).length ∧ (∀ (i : Nat) o, i < (LX P N left pb J).length → (LX P N left' pb' (J ++ [x]))[i]? = some o → (LX P N left pb J)[i]? = some o ∨ ScpO (LX P N left pb J).length o) ∧
    ∃ v', Frz (LX P N left pb J).length (LX P N left' pb' (J ++ [x])) (.str w) v' ∧ Q v' ((LX P N left' pb' (J ++ [x])).take (LX P N left pb J).length) := by
  refine ⟨by simp, fun i o hi e => ?_, _, .scp (.str _), ?_⟩
  · have hl : (LX P N left pb J).length = J.length + 5 := rfl
    match i, hi, e with
    | 0, _, e => exact .inl e
    | 1, _, e => cases e; exact .inr (.list (scps_map fun _ _ => .str _))
    | 2, _, e => cases e; exact .inr (.ns (.cons (.int _) (.cons (.stream (.ref (by rw [hl]; exact Nat.le_of_ble_eq_true rfl))) (.cons (.str _) (.cons (.ref (by rw [hl]; exact Nat.le_of_ble_eq_true rfl)) .nil)))))
    | 3, _, e => exact .inl e
    | 4, _, e => cases e; exact .inr (.list (scps_map fun _ _ => .str _))
    | i + 5, hi, e =>
      have hi' : i < J.length := by rw [hl] at hi; exact ar58 (by assumption)
      have e' : (J ++ [x])[i]? = some o := e
      rw [List.getElem?_append_left hi'] at e'
      exact .inl e'
  · have : (LX P N left' pb' (J ++ [x])).take (LX P N left pb J).length = LX P N left' pb' J := by
      show AO.opaq :: AO.list (signs left') :: .ns (lxA P N left') :: .inst 125 2 :: .list (wds pb') :: (J ++ [x]).take J.length = _
      rw [List.take_left]
    rw [this]; exact q
theorem gm_rc (G : GKB C.B) {P : Params} : GETM C (LX P N left pb J) (.ref 3) (Str.ofString "_read_char") (.ref 108) := GETM_ref G.ok (c := 125) (d := 2) (as := lxA P N left) (by rw [G.K]; kernel_rfl) rfl rfl rfl
theorem bareT_nil {t : List Nat} : bareT t [] = (t, []) := by rw [bareT]
theorem quotT_nil {t : List Nat} : quotT t [] = (t, []) := by rw [quotT]
end
inductive TP (P : Params) (N : Int) (J : List AO) (left : List Nat) (V : List Nat → Vars) : AF → Vars → List AO → Prop
  | next {t : List Nat} {v : Vars} (s : Sub (V t) v) (e : tokT left = (t, [])) : TP P N J left V .next v (LX P N [] [] (J ++ [.cdone]))
  | ret {t r : List Nat} {v : Vars} (e : tokT left = (t, r)) : TP P N J left V (.ret (.str t)) v (LX P N r [] (J ++ [CI]))
inductive AP (P : Params) (N : Int) (J : List AO) (left : List Nat) : AF → Vars → List AO → Prop
  | mk {T R : List Nat} {v : Vars} (s : Sub [("self", .ref 3), ("token", .str []), ("fiter", .ref (J.length + 5)), ("ch", .str T)] v) (e : bareT T R = tokT left) (l : T.length + R.length ≤ left.length) : AP P N J left .next v (LX P N R [] (J ++ [CI]))
inductive TI0 (P : Params) (N : Int) (J : List AO) (left : List Nat) : Nat → List Nat × List Nat × Bool → List AO → Prop
  | go {l : List Nat} (e : tokT l = tokT left) (h : l.length ≤ left.length) : TI0 P N J left (l.length + 1) ([], l, false) (LX P N l [] (J ++ [CI]))
  | done {t l : List Nat} (e : tokT left = (t, [])) : TI0 P N J left 0 (t, l, true) (LX P N [] [] (J ++ [.cdone]))
inductive TI (P : Params) (N : Int) (J : List AO) (left : List Nat) (tk : List Nat → List Nat → List Nat × List Nat) : Nat → List Nat × List Nat × Bool → List AO → Prop
  | go {t l : List Nat} (e : tk t l = tokT left) (h : t.length + l.length ≤ left.length) : TI P N J left tk (l.length + 1) (t, l, false) (LX P N l [] (J ++ [CI]))
  | done {t l : List Nat} (e : tokT left = (t, [])) : TI P N J left tk 0 (t, l, true) (LX P N [] [] (J ++ [.cdone]))
section
variable {C : Cx} {sc : Scope} {vars : Vars} {H : List AO} {N : Int} {left : List Nat} {pb : List (List Nat)} {J : List AO}
theorem tok_read (G : GKB C.B) (hd : 4 < C.d) (hF : FHi C) (hF2 : FOk C (J.length + 5)) (hz : left.length ≤ 1000000) {Q : AV → List AO → Prop} (q : Q (.str (tokT left).1) (LX C.B.w.params N (tokT left).2 [] J)) : CALL C (LX C.B.w.params N left [] J) (.ref 115) [.ref 3] Q := by
  refine CALL_drop G.ok (ar7 (by assumption) (by rfl)) (names := ["self"]) (by refine fnOk_of (by assumption) (by rfl) rfl (by kernel_rfl) rfl rfl rfl ?_ (by kernel_rfl) (by decide) (by kernel_rfl) rfl rfl rfl; exact bind1 fun _ => rfl) rfl ?_
  generalize hP : C.B.w.params = P at q ⊢
  repeat km_tabs pj
  with_reducible refine EV_attr (fun _ => by with_unfolding_all rfl) ?_
  repeat km_tabs pj
  refine ⟨_, ga_lx (by assumption) (by kernel_rfl) rfl (fun _ h => by cases h), ?_⟩
  repeat km_tabs pj
  refine OPT_list (.ref (xs := wds []) rfl) (by simp) ?_
  refine if_ff ?_
  repeat km_tabs pj
  with_reducible refine EV_rc (by assumption) (fun _ => by with_unfolding_all rfl) ?_
  repeat km_tabs pj
  refine ⟨⟨_, rfl, rfl⟩, ?_⟩
  repeat km_tabs pj
  refine CALL_iter ?_
  rw [show LX P N left [] J ++ [.citer (.meth 108 (.ref 3)) (.str [])] = LX P N left [] (J ++ [CI]) from rfl, show (LX P N left [] J).length = J.length + 5 from rfl]
  repeat km_tabs pj
  refine EX.mono (Q := TP P N J left fun t => [("token", .str t)]) ?_ ?_
  · refine EX_forcV (i := J.length + 5) (f := 108) (self := .ref 3) (fun (a : List Nat × List Nat × Bool) => [("self", .ref 3), ("token", .str a.1), ("fiter", .ref (J.length + 5))]) G.ok (by km_tabs pj_d) (fun _ _ => by with_unfolding_all rfl) (fun _ _ => by with_unfolding_all rfl)
      ⟨_, _, _, _, by rw [G.K]; rfl⟩ (hF2.nin (Nat.le_refl _))
      (TI0 P N J left)
      ?_ ?_ ?_ ?_
    · repeat km_tabs pj
      exact ⟨left.length + 1, ([], left, false), .cons rfl (.cons rfl (.cons rfl .nil)), .go rfl (Nat.le_refl _)⟩
    · rintro n a H' (_ | _)
      · exact .inl lx_get
      · exact .inr lx_get
    · rintro n a H' (@⟨l, h3, h5⟩ | _) hci
      · dsimp only
        subst hP
        refine rc_body (C := C.down.down) G (by km_tabs pj_d) hF (ar44 (by assumption) (by assumption)) (fun e => ?_) (fun c r e => ?_)
        · subst e
          refine ⟨[], rfl, lx_get, fun _ v s => ?_, fun h => absurd rfl h⟩
          rw [lx_set]
          exact .next (.cons (s _ _ rfl) .nil) (by rw [← h3]; rfl)
        · subst e
          refine ⟨[c], rfl, lx_get, fun h => absurd h (by simp), fun _ => ?_⟩
          repeat km_tabs pj
          with_reducible refine EV_attr (fun _ => by with_unfolding_all rfl) ?_
          repeat km_tabs pj
          refine ⟨_, ga_lx (C := C.down) (P := C.B.w.params) G (by kernel_rfl) rfl (fun _ h => by cases h), ?_⟩
          refine OP_insign ?_
          rw [wsp_mem]
          refine ⟨_, rfl, ?_⟩
          refine if_bool (fun z => ?_) (fun z => ?_)
          · repeat km_tabs pj
            with_reducible refine EX_cont ?_
            repeat km_tabs pj
            with_reducible refine seqK_cont ?_
            repeat km_tabs pj
            with_reducible refine seqK_cont ?_
            repeat km_tabs pj
            exact ⟨r.length + 1, ([], r, false), Nat.lt_succ_self _, .cons rfl (.cons rfl (.cons rfl .nil)), .go (by rw [← h3]; simp [tokT, z]) (by first | (simp at h5 ⊢; done) | (simp at h5 ⊢; exact ar21 (by assumption)))⟩
          · repeat km_tabs pj
            with_reducible refine OP_eqs ?_
            repeat km_tabs pj
            refine if_bool (fun z2 => ?_) (fun z2 => ?_)
            · have : c = 34 := one_str.mp z2
              subst this
              repeat km_tabs pj
              refine EX.mono (Q := TP C.B.w.params N J left fun t => [("self", .ref 3), ("token", .str t), ("fiter", .ref (J.length + 5))]) ?_ ?_
              · refine EX_forcV (i := J.length + 5) (f := 108) (self := .ref 3) (fun (a : List Nat × List Nat × Bool) => [("self", .ref 3), ("token", .str a.1), ("fiter", .ref (J.length + 5))]) G.ok (by km_tabs pj_d) (fun _ _ => by with_unfolding_all rfl) (fun _ _ => by with_unfolding_all rfl)
                  ⟨_, _, _, _, by rw [G.K]; rfl⟩ (hF2.nin (Nat.le_refl _))
                  (TI C.B.w.params N J left quotT)
                  ?_ ?_ ?_ ?_
                · repeat km_tabs pj
                  exact ⟨(r).length + 1, ([], r, false), .cons rfl (.cons rfl (.cons rfl .nil)), .go (by rw [← h3]; simp [tokT, z]) (by first | (simp at h5 ⊢; done) | (simp at h5 ⊢; exact ar21 (by assumption)))⟩
                · rintro n a H' (_ | _)
                  · exact .inl lx_get
                  · exact .inr lx_get
                · rintro n a H' (@⟨t, l, g3, g5⟩ | _) hci
                  · dsimp only
                    refine rc_body (C := C.down.down) G (by km_tabs pj_d) hF (ar16 (by assumption) (by assumption) (by rfl)) (fun e => ?_) (fun c r e => ?_)
                    · subst e
                      refine ⟨[], rfl, lx_get, fun _ v s => ?_, fun h => absurd rfl h⟩
                      rw [lx_set]
                      exact .next s (by rw [← g3, quotT_nil])
                    · subst e
                      refine ⟨[c], rfl, lx_get, fun h => absurd h (by simp), fun _ => ?_⟩
                      repeat km_tabs pj
                      with_reducible refine OP_eqs ?_
                      repeat km_tabs pj
                      refine if_bool (fun z1 => ?_) (fun z1 => ?_)
                      · have : c = 34 := one_str.mp z1
                        subst this
                        repeat km_tabs pj
                        exact .ret (by rw [← g3, quotT_q])
                      · have hn34 : c ≠ 34 := fun y => by subst y; simp at z1
                        repeat km_tabs pj
                        with_reducible refine OP_eqs ?_
                        repeat km_tabs pj
                        refine if_bool (fun z2 => ?_) (fun z2 => ?_)
                        · have : c = 92 := one_str.mp z2
                          subst this
                          repeat km_tabs pj
                          refine ⟨_, gm_rc (C := C.down) (P := C.B.w.params) G, by kernel_rfl, ?_⟩
                          repeat km_tabs pj
                          refine (rc_body (C := C.down) G (by km_tabs pj_d) hF (by simp at g5; exact ar17 (by assumption) (by assumption) (by rfl)) (fun e => ?_) (fun d r' e => ?_)).call
                          · subst e
                            repeat km_tabs pj
                            with_reducible refine EX_aug (by kernel_rfl) (by with_unfolding_all rfl) ?_
                            repeat km_tabs pj
                            refine OP_icat (by simp at g5 ⊢; exact ar15 (by assumption) (by assumption) (by rfl)) ?_
                            repeat km_tabs pj
                            exact ⟨1, (t ++ [], [], false), Nat.lt_succ_self _, .cons rfl (.cons rfl (.cons rfl .nil)), .go (t := t ++ []) (l := []) (by rw [← g3, quotT_esc0]; simp [quotT_nil]) (by simp at g5 ⊢; exact ar21 (by assumption))⟩
                          · subst e
                            repeat km_tabs pj
                            with_reducible refine EX_aug (by kernel_rfl) (by with_unfolding_all rfl) ?_
                            repeat km_tabs pj
                            refine OP_icat (by simp at g5 ⊢; exact ar15 (by assumption) (by assumption) (by rfl)) ?_
                            repeat km_tabs pj
                            exact ⟨r'.length + 1, (t ++ [d], r', false), Nat.lt_succ_of_lt (Nat.lt_succ_self _), .cons rfl (.cons rfl (.cons rfl .nil)), .go (by rw [← g3, quotT_esc]) (by simp at g5 ⊢; exact ar34 (by assumption))⟩
                        · have hn92 : c ≠ 92 := fun y => by subst y; simp at z2
                          repeat km_tabs pj
                          with_reducible refine EX_aug (by kernel_rfl) (by with_unfolding_all rfl) ?_
                          repeat km_tabs pj
                          refine OP_icat (by simp at g5 ⊢; exact ar15 (by assumption) (by assumption) (by rfl)) ?_
                          repeat km_tabs pj
                          exact ⟨r.length + 1, (t ++ [c], r, false), Nat.lt_succ_self _, .cons rfl (.cons rfl (.cons rfl .nil)), .go (by rw [← g3, quotT_c hn34 hn92]) (by simp at g5 ⊢; exact ar33 (by assumption))⟩
                  · rw [lx_get] at hci; cases hci
                · rintro n a v H' s (@⟨t, l, g3, g5⟩ | @⟨t, l, g1⟩) hci
                  · rw [lx_get] at hci; cases hci
                  · exact .next s (g1)
              · rintro f v H' (@⟨t, _, s, e⟩ | @⟨t, r, _, e⟩)
                · repeat km_tabs pj
                  exact ⟨0, (t, [], true), Nat.succ_pos _, s, .done e⟩
                · repeat km_tabs pj
                  exact .ret (e)
            · have hn34 : c ≠ 34 := fun y => by subst y; simp at z2
              km_tabs pj
              refine EX.mono (Q := AP C.B.w.params N J left) ?_ ?_
              · repeat km_tabs pj
                with_reducible refine OP_eqs ?_
                repeat km_tabs pj
                refine if_bool (fun z3 => ?_) (fun z3 => ?_)
                · have : c = 92 := one_str.mp z3
                  subst this
                  repeat km_tabs pj
                  refine ⟨_, gm_rc (C := C.down) (P := C.B.w.params) G, by kernel_rfl, ?_⟩
                  repeat km_tabs pj
                  refine (rc_body (C := C.down) G (by km_tabs pj_d) hF (by simp at h5; exact ar15 (by assumption) (by assumption) (by rfl)) (fun e => ?_) (fun d r' e => ?_)).call
                  · subst e
                    repeat km_tabs pj
                    exact .mk (T := []) (R := []) (.cons rfl (.cons rfl (.cons rfl (.cons rfl .nil)))) (by rw [← h3]; simp [tokT, bareT_nil, z]) (by first | (simp at h5 ⊢; done) | (simp at h5 ⊢; omega))
                  · subst e
                    repeat km_tabs pj
                    exact .mk (T := [d]) (R := r') (.cons rfl (.cons rfl (.cons rfl (.cons rfl .nil)))) (by rw [← h3]; simp [tokT, z]) (by first | (simp at h5 ⊢; done) | (simp at h5 ⊢; exact as34 (by assumption)))
                · have hn92 : c ≠ 92 := fun y => by subst y; simp at z3
                  repeat km_tabs pj
                  exact .mk (T := [c]) (R := r) (.cons rfl (.cons rfl (.cons rfl (.cons rfl .nil)))) (by rw [← h3]; simp [tokT, z, hn34, hn92]) (by first | (simp at h5 ⊢; done) | (simp at h5 ⊢; exact as33 (by assumption)))
              · rintro f v H' @⟨T, R, _, s, he, hl⟩
                refine seqK_next (EXs.sub s ?_)
                repeat km_tabs pj
                with_reducible refine EX_aug (by kernel_rfl) (by with_unfolding_all rfl) ?_
                repeat km_tabs pj
                refine OP_icat (Nat.le_trans (Nat.le_of_eq (Nat.zero_add _)) (ar85 (Nat.le_trans hl hz) rfl)) ?_
                repeat km_tabs pj
                refine EX.mono (Q := TP C.B.w.params N J left fun t => [("self", .ref 3), ("token", .str t), ("fiter", .ref (J.length + 5))]) ?_ ?_
                · refine EX_forcV (i := J.length + 5) (f := 108) (self := .ref 3) (fun (a : List Nat × List Nat × Bool) => [("self", .ref 3), ("token", .str a.1), ("fiter", .ref (J.length + 5))]) G.ok (by km_tabs pj_d) (fun _ _ => by with_unfolding_all rfl) (fun _ _ => by with_unfolding_all rfl)
                    ⟨_, _, _, _, by rw [G.K]; rfl⟩ (hF2.nin (Nat.le_refl _))
                    (TI C.B.w.params N J left bareT)
                    ?_ ?_ ?_ ?_
                  · repeat km_tabs pj
                    exact ⟨R.length + 1, (T, R, false), .cons rfl (.cons rfl (.cons rfl .nil)), .go he hl⟩
                  · rintro n a H' (_ | _)
                    · exact .inl lx_get
                    · exact .inr lx_get
                  · rintro n a H' (@⟨t, l, g3, g5⟩ | _) hci
                    · dsimp only
                      refine rc_body (C := C.down.down) G (by km_tabs pj_d) hF (ar16 (by assumption) (by assumption) (by rfl)) (fun e => ?_) (fun c r e => ?_)
                      · subst e
                        refine ⟨[], rfl, lx_get, fun _ v s => ?_, fun h => absurd rfl h⟩
                        rw [lx_set]
                        exact .next s (by rw [← g3, bareT_nil])
                      · subst e
                        refine ⟨[c], rfl, lx_get, fun h => absurd h (by simp), fun _ => ?_⟩
                        repeat km_tabs pj
                        with_reducible refine EV_attr (fun _ => by with_unfolding_all rfl) ?_
                        repeat km_tabs pj
                        refine ⟨_, ga_lx (C := C.down) (P := C.B.w.params) G (by kernel_rfl) rfl (fun _ h => by cases h), ?_⟩
                        refine OP_insign ?_
                        rw [wsp_mem]
                        refine ⟨_, rfl, ?_⟩
                        refine if_bool (fun z1 => ?_) (fun z1 => ?_)
                        · repeat km_tabs pj
                          exact .ret (by rw [← g3, bareT_ws z1])
                        · repeat km_tabs pj
                          with_reducible refine OP_eqs ?_
                          repeat km_tabs pj
                          refine if_bool (fun z2 => ?_) (fun z2 => ?_)
                          · have : c = 92 := one_str.mp z2
                            subst this
                            repeat km_tabs pj
                            refine ⟨_, gm_rc (C := C.down) (P := C.B.w.params) G, by kernel_rfl, ?_⟩
                            repeat km_tabs pj
                            refine (rc_body (C := C.down) G (by km_tabs pj_d) hF (by simp at g5; exact ar17 (by assumption) (by assumption) (by rfl)) (fun e => ?_) (fun d r' e => ?_)).call
                            · subst e
                              repeat km_tabs pj
                              with_reducible refine EX_aug (by kernel_rfl) (by with_unfolding_all rfl) ?_
                              repeat km_tabs pj
                              refine OP_icat (by simp at g5 ⊢; exact ar15 (by assumption) (by assumption) (by rfl)) ?_
                              repeat km_tabs pj
                              exact ⟨1, (t ++ [], [], false), Nat.lt_succ_self _, .cons rfl (.cons rfl (.cons rfl .nil)), .go (t := t ++ []) (l := []) (by rw [← g3, bareT_esc0]; simp [bareT_nil]) (by simp at g5 ⊢; exact ar21 (by assumption))⟩
                            · subst e
                              repeat km_tabs pj
                              with_reducible refine EX_aug (by kernel_rfl) (by with_unfolding_all rfl) ?_
                              repeat km_tabs pj
                              refine OP_icat (by simp at g5 ⊢; exact ar15 (by assumption) (by assumption) (by rfl)) ?_
                              repeat km_tabs pj
                              exact ⟨r'.length + 1, (t ++ [d], r', false), Nat.lt_succ_of_lt (Nat.lt_succ_self _), .cons rfl (.cons rfl (.cons rfl .nil)), .go (by rw [← g3, bareT_esc]) (by simp at g5 ⊢; exact ar34 (by assumption))⟩
                          · have hn92 : c ≠ 92 := fun y => by subst y; simp at z2
                            repeat km_tabs pj
                            with_reducible refine EX_aug (by kernel_rfl) (by with_unfolding_all rfl) ?_
                            repeat km_tabs pj
                            refine OP_icat (by simp at g5 ⊢; exact ar15 (by assumption) (by assumption) (by rfl)) ?_
                            repeat km_tabs pj
                            exact ⟨r.length + 1, (t ++ [c], r, false), Nat.lt_succ_self _, .cons rfl (.cons rfl (.cons rfl .nil)), .go (by rw [← g3, bareT_c z1 hn92]) (by simp at g5 ⊢; exact ar33 (by assumption))⟩
                    · rw [lx_get] at hci; cases hci
                  · rintro n a v H' s (@⟨t, l, g3, g5⟩ | @⟨t, l, g1⟩) hci
                    · rw [lx_get] at hci; cases hci
                    · exact .next s (g1)
                · rintro f v H' (@⟨t, _, s, e⟩ | @⟨t, r, _, e⟩)
                  · repeat km_tabs pj
                    exact ⟨0, (t, [], true), Nat.succ_pos _, s, .done e⟩
                  · repeat km_tabs pj
                    exact .ret (e)
      · rw [lx_get] at hci; cases hci
    · rintro n a v H' s (@⟨l, h3, h5⟩ | @⟨t, l, h1⟩) hci
      · rw [lx_get] at hci; cases hci
      · exact .next (.cons (s _ _ rfl) .nil) h1
  · rintro f v H' (@⟨t, _, s, e⟩ | @⟨t, r, _, e⟩)
    · refine seqK_next (EXs.sub s ?_)
      repeat km_tabs pj
      rw [e] at q
      exact lx_drop q
    · refine seqK_ret ?_
      rw [e] at q
      exact lx_drop q
end
end
section
theorem EV_neg' {C : Cx} {sc : Scope} {vars : Vars} {H : List AO} {e : Expr} {pos : Pos} {Q : AV → List AO → Prop} (h : EV C sc vars H e fun v H1 => ∃ i, v = .int i ∧ Q (.int (-i)) H1) : EV C sc vars H (.UnaryOp .USub e pos) Q := EV_neg (i := 0) h
noncomputable def tbl : List (List Nat × Int) := [([33], 54), ([33, 61], 28), ([37], 24), ([37, 61], 40), ([38], 19), ([38, 61], 41), ([40], 7), ([41], 8), ([42], 16), ([42, 42], 35), ([42, 42, 61], 46), ([42, 61], 38), ([43], 14), ([43, 61], 36), ([44], 12), ([45], 15), ([45, 61], 37), ([45, 62], 51), ([46], 23), ([46, 46, 46], 52), ([47], 17), ([47, 47], 47), ([47, 47, 61], 48), ([47, 61], 39), ([58], 11), ([58, 61], 53), ([59], 13), ([60], 20), ([60, 60], 33), ([60, 60, 61], 44), ([60, 61], 29), ([61], 22), ([61, 61], 27), ([62], 21), ([62, 61], 30), ([62, 62], 34), ([62, 62, 61], 45), ([64], 49), ([64, 61], 50), ([91], 9), ([93], 10), ([94], 32), ([94, 61], 43), ([123], 25), ([124], 18), ([124, 61], 42), ([125], 26), ([126], 31)]
noncomputable def signsL : List (List Nat) := [[40], [41], [91], [93], [58], [44], [59], [43], [45], [42], [47], [124], [38], [60], [62], [61], [46], [37], [123], [125], [61, 61], [33, 61], [60, 61], [62, 61], [126], [94], [60, 60], [62, 62], [42, 42], [43, 61], [45, 61], [42, 61], [47, 61], [37, 61], [38, 61], [124, 61], [94, 61], [60, 60, 61], [62, 62, 61], [42, 42, 61], [47, 47], [47, 47, 61], [64], [64, 61], [45, 62], [46, 46, 46], [58, 61], [33]]
noncomputable def tokv (c : Nat) : Nat := ((tbl.lookup [c]).getD (c : Int)).toNat
noncomputable def Tr.bump (t : Tr) (j : Nat) : Tr := if j = 0 then { t with a := t.a + 1 } else if j = 1 then { t with b := t.b + 1 } else { t with c := t.c + 1 }
theorem tbl_nn : ∀ c, c < 256 → 0 ≤ (tbl.lookup [c]).getD (c : Int) := by
  intro c _
  cases h : tbl.lookup [c] with
  | none => simp
  | some v =>
    have hm : ∀ p ∈ tbl, 0 ≤ p.2 := by decide
    have : ∃ k, (k, v) ∈ tbl := by
      clear hm
      generalize tbl = t at h
      induction t with
      | nil => cases h
      | cons p t ih =>
        rw [List.lookup_cons] at h
        split at h
        · cases h; exact ⟨p.1, List.mem_cons_self⟩
        · refine (ih h).elim fun k hk => ?_; exact ⟨k, List.mem_cons_of_mem _ hk⟩
    refine this.elim fun k hk => ?_; (try clear this)
    exact hm _ hk
theorem tok_mod {c : Nat} (h : c < 256) : ((tbl.lookup [c]).getD (c : Int)).fmod 3 = ((tokv c % 3 : Nat) : Int) := by
  rw [Int.fmod_eq_emod_of_nonneg _ (by decide)]
  have := tbl_nn c h
  unfold tokv
  lia
noncomputable def Tr.nth (t : Tr) (j : Nat) : Nat := if j = 0 then t.a else if j = 1 then t.b else t.c
theorem bump_get (t : Tr) {j : Nat} (h : j < 3) : ([AV.int (t.a : Int), .int (t.b : Int), .int (t.c : Int)])[((j : Nat) : Int).toNat]? = some (.int (t.nth j : Int)) := by
  have : j = 0 ∨ j = 1 ∨ j = 2 := by exact ar25 (by assumption)
  rcases this with rfl | rfl | rfl <;> rfl
theorem bump_set (t : Tr) {j : Nat} (h : j < 3) : ([AV.int (t.a : Int), .int (t.b : Int), .int (t.c : Int)]).set ((j : Nat) : Int).toNat (.int ((t.nth j : Int) + 1)) = [AV.int ((t.bump j).a : Int), .int ((t.bump j).b : Int), .int ((t.bump j).c : Int)] := by
  have : j = 0 ∨ j = 1 ∨ j = 2 := by exact ar25 (by assumption)
  rcases this with rfl | rfl | rfl <;> rfl
theorem set_at1 {x y z : AO} {H K : List AO} : (H ++ x :: y :: K).set (H.length + 1) z = H ++ x :: z :: K := by
  rw [List.set_append_right _ _ (by exact Nat.le_add_right _ _), show H.length + 1 - H.length = 1 by exact ar37 ]; rfl
theorem set_at2 {x y z w : AO} {H K : List AO} : (H ++ x :: y :: z :: K).set (H.length + 2) w = H ++ x :: y :: w :: K := by
  rw [List.set_append_right _ _ (by exact Nat.le_add_right _ _), show H.length + 2 - H.length = 2 by exact ar38 ]; rfl
section
variable {C : Cx} {H : List AO}
theorem gm_tab (G : GKB C.B) (T : TokTab C.B 130 tbl) : GETM C H (.val (.ref 130)) (Str.ofString "get") (.builtin "dict.get") := GETM_tab T
theorem tok_tab (G : GKB C.B) : TokTab C.B 130 tbl := kt_text_in G.ok.inK (by rw [G.K]; kernel_rfl)
noncomputable abbrev Tr.ao (t : Tr) : AO := .list [.int (t.a : Int), .int (t.b : Int), .int (t.c : Int)]
theorem sides_ok (G : GKB C.B) (hd : 1 < C.d) (hF : FOk C H.length) {a b k c d : Nat} (ha : 0 < a ∧ a < 256) (hb : 0 < b ∧ b < 256) (hk : k < 3) (hc : 0 < c ∧ c < 256) (hdd : 0 < d ∧ d < 256) {Q : AV → List AO → Prop}
    (q : Q (.list [(((⟨0, 0, 0⟩ : Tr).bump (tokv a % 3)).bump (tokv b % 3)).av, (((⟨0, 0, 0⟩ : Tr).bump (tokv c % 3)).bump (tokv d % 3)).av]) H) : CALL C H (.ref 172) [.str [a, b, 256 + k, c, d, 0]] Q := by
  refine CALL_pure G.ok (ar7 (by assumption) (by rfl)) (names := ["word"]) (by refine fnOk_of (by assumption) (by rfl) rfl (by kernel_rfl) rfl rfl rfl ?_ (by kernel_rfl) (by decide) (by kernel_rfl) rfl rfl rfl; exact bind1 fun _ => rfl) rfl ?_
  repeat km_tabs pj
  refine EV_listM (by kernel_rfl) ?_
  repeat km_tabs pj
  refine EV_listM (by kernel_rfl) ?_
  repeat km_tabs pj
  refine ⟨Nat.le_of_ble_eq_true rfl, ?_⟩
  repeat km_tabs pj
  refine ⟨Nat.le_of_ble_eq_true rfl, ?_⟩
  repeat km_tabs pj
  have T := tok_tab G
  let z : Tr := ⟨0, 0, 0⟩
  let ja := tokv a % 3
  let jb := tokv b % 3
  let jc := tokv c % 3
  let jd := tokv d % 3
  let st : Nat → List AO := fun n => match n with
    | 0 => z.ao :: .list [.ref H.length] :: []
    | 1 => (z.bump ja).ao :: .list [.ref H.length] :: []
    | 2 => ((z.bump ja).bump jb).ao :: .list [.ref H.length] :: []
    | 3 => ((z.bump ja).bump jb).ao :: .list [.ref H.length, .ref (H.length + 2)] :: z.ao :: []
    | 4 => ((z.bump ja).bump jb).ao :: .list [.ref H.length, .ref (H.length + 2)] :: (z.bump jc).ao :: []
    | _ => ((z.bump ja).bump jb).ao :: .list [.ref H.length, .ref (H.length + 2)] :: ((z.bump jc).bump jd).ao :: []
  refine EX.mono (Q := fun f v H' => f = .next ∧ Sub [("sides", .ref (H.length + 1))] v ∧ H' = H ++ st 5) ?_ ?_
  · refine EX_forV (fun (_ : Unit) => [("word", .str [a, b, 256 + k, c, d, 0]), ("sides", .ref (H.length + 1))]) (fun xs n _ H' => xs = signs [a, b, 256 + k, c, d, 0] ∧ H' = H ++ st n) (fun _ _ => by with_unfolding_all rfl) ?_
    repeat km_tabs pj
    with_reducible refine EVI_val ?_
    repeat km_tabs pj
    refine ITV_str ?_
    refine ⟨⟨(), .cons rfl (.cons ?_ .nil), rfl, by rw [List.append_assoc]; rfl⟩, ?_, ?_⟩
    · show some (AV.ref _) = some (AV.ref _)
      simp
    · intro n x _ H' hn zz1; refine zz1.elim fun _ zz2 => ?_; clear zz1; (first | subst zz2 | cases zz2)
      have pk : n = 2 ∨ n = 5 ∨ ∃ (e : Nat) (t : Tr) (xs : List AV) (j : Nat), (0 < e ∧ e < 256) ∧ x = .str [e] ∧ (H ++ st n)[H.length + 1]? = some (.list xs) ∧ xs[xs.length - 1]? = some (.ref j) ∧ xs.length ≤ 2 ∧ (H ++ st n)[j]? = some t.ao ∧ H.length ≤ j ∧ (H ++ st n).set j (t.bump (tokv e % 3)).ao = H ++ st (n + 1) :=
        match n, hn with
        | 0, hn => .inr (.inr ⟨a, z, [.ref H.length], H.length, ha, (Option.some.inj hn).symm, get_at1, rfl, Nat.le_of_ble_eq_true rfl, get_at, Nat.le_refl _, set_at⟩)
        | 1, hn => .inr (.inr ⟨b, z.bump ja, [.ref H.length], H.length, hb, (Option.some.inj hn).symm, get_at1, rfl, Nat.le_of_ble_eq_true rfl, get_at, Nat.le_refl _, set_at⟩)
        | 2, _ => .inl rfl
        | 3, hn => .inr (.inr ⟨c, z, [.ref H.length, .ref (H.length + 2)], H.length + 2, hc, (Option.some.inj hn).symm, get_at1, rfl, Nat.le_refl _, get_at2, Nat.le_add_right _ _, set_at2⟩)
        | 4, hn => .inr (.inr ⟨d, z.bump jc, [.ref H.length, .ref (H.length + 2)], H.length + 2, hdd, (Option.some.inj hn).symm, get_at1, rfl, Nat.le_refl _, get_at2, Nat.le_add_right _ _, set_at2⟩)
        | 5, _ => .inr (.inl rfl)
        | n + 6, hn => by cases hn
      rcases pk with hn2 | hn5 | pk
      · subst hn2
        cases hn
        repeat km_tabs pj
        refine CALL_ord ?_
        repeat km_tabs pj
        refine iseof_ok (by assumption) (by km_tabs pj_d) ?_
        repeat km_tabs pj
        refine if_bool (fun y => absurd y (by simp; lia)) (fun _ => ?_)
        repeat km_tabs pj
        refine CALL_ord ?_
        repeat km_tabs pj
        refine isnonterminal_ok (by assumption) (by km_tabs pj_d) ?_
        repeat km_tabs pj
        refine if_dec (fun _ => ?_) (fun y => absurd y (by lia))
        repeat km_tabs pj
        with_reducible refine EX_expr (fun _ => by with_unfolding_all rfl) ?_
        repeat km_tabs pj
        refine ⟨_, gm_append get_at1, by kernel_rfl, ?_⟩
        repeat km_tabs pj
        refine EV_listM (by kernel_rfl) ?_
        repeat km_tabs pj
        refine ⟨Nat.le_of_ble_eq_true rfl, ?_⟩
        repeat km_tabs pj
        rw [show (H ++ st 2).length = H.length + 2 by rw [List.length_append]; rfl, show (H ++ st 2) ++ [AO.list [AV.int 0, .int 0, .int 0]] = H ++ ((z.bump ja).bump jb).ao :: .list [.ref H.length] :: z.ao :: [] by rw [List.append_assoc]; rfl]
        refine CALL_append get_at1 (hF.nin (by exact Nat.le_add_right _ _)) (Nat.le_of_ble_eq_true rfl) ?_
        rw [set_at1]
        repeat km_tabs pj
        refine CALL_ord ?_
        repeat km_tabs pj
        refine isterminal_ok (by assumption) (by km_tabs pj_d) ?_
        repeat km_tabs pj
        refine if_dec (fun y => absurd y (by lia)) (fun _ => ?_)
        repeat km_tabs pj
        exact ⟨(), .cons rfl (.cons rfl .nil), rfl, rfl⟩
      · subst hn5
        cases hn
        repeat km_tabs pj
        refine CALL_ord ?_
        repeat km_tabs pj
        refine iseof_ok (by assumption) (by km_tabs pj_d) ?_
        repeat km_tabs pj
        refine if_bool (fun _ => ?_) (fun y => absurd y (by decide))
        repeat km_tabs pj
        with_reducible refine EX_brk ?_
        repeat km_tabs pj
        with_reducible refine seqK_brk ?_
        repeat km_tabs pj
        with_reducible refine seqK_brk ?_
        repeat km_tabs pj
        exact ⟨.cons rfl .nil, rfl⟩
      · refine pk.elim fun e pk => pk.elim fun t pk => pk.elim fun xs pk => pk.elim fun j pk => pk.elim fun he pk => pk.elim fun hx pk => pk.elim fun h1 pk => pk.elim fun h2 pk => pk.elim fun hxl pk => pk.elim fun h3 pk => pk.elim fun hj2 h4 => ?_
        clear pk hn
        subst hx
        repeat km_tabs pj
        refine CALL_ord ?_
        repeat km_tabs pj
        refine iseof_ok (by assumption) (by km_tabs pj_d) ?_
        repeat km_tabs pj
        refine if_bool (fun y => absurd y (by simp; exact ar32 (by assumption))) (fun _ => ?_)
        repeat km_tabs pj
        refine CALL_ord ?_
        repeat km_tabs pj
        refine isnonterminal_ok (by assumption) (by km_tabs pj_d) ?_
        repeat km_tabs pj
        refine if_dec (fun y => absurd y (ai15 (by assumption))) (fun _ => ?_)
        repeat km_tabs pj
        refine CALL_ord ?_
        repeat km_tabs pj
        refine isterminal_ok (by assumption) (by km_tabs pj_d) ?_
        repeat km_tabs pj
        refine if_dec (fun _ => ?_) (fun y => absurd y (by lia))
        repeat km_tabs pj
        with_reducible refine EX_augsub (fun _ _ _ => by with_unfolding_all rfl) ?_
        repeat km_tabs pj
        with_reducible refine EV_neg' ?_
        repeat km_tabs pj
        refine SUB_last h1 h2 (Nat.le_trans hxl (Nat.le_of_ble_eq_true rfl)) ?_
        repeat km_tabs pj
        refine ⟨_, gm_tab G T, by kernel_rfl, ?_⟩
        repeat km_tabs pj
        refine CALL_ord ?_
        repeat km_tabs pj
        refine CALL_tab T ?_
        repeat km_tabs pj
        refine OP_mod (by decide) ?_
        rw [tok_mod (ar68 (by assumption))]
        have hj : tokv e % 3 < 3 := Nat.mod_lt _ (by decide)
        refine SUB_rlist h3 (by exact ai1 ) (bump_get t hj) (Nat.le_of_ble_eq_true rfl) ?_
        repeat km_tabs pj
        with_reducible refine OP_iadd ?_
        repeat km_tabs pj
        refine SETI_list h3 (hF.nin hj2) (by exact ai1 ) (by rw [Int.toNat_natCast]; exact hj) (Nat.le_of_ble_eq_true rfl) ?_
        rw [bump_set _ hj, h4]
        repeat km_tabs pj
        exact ⟨(), .cons rfl (.cons rfl .nil), rfl, rfl⟩
    · intro _ v2 H' hs zz1; refine zz1.elim fun _ zz2 => ?_; clear zz1; (first | subst zz2 | cases zz2)
      exact ⟨rfl, .cons (hs _ _ rfl) .nil, rfl⟩
  · intro f v H' zz1; refine zz1.elim fun zz2 zz3 => zz3.elim fun hs zz4 => ?_; clear zz3 zz1; (first | subst zz2 | cases zz2); (first | subst zz4 | cases zz4)
    refine seqK_next (EXs.sub hs ?_)
    repeat km_tabs pj
    refine ⟨_, .rlist (by exact Nat.le_add_right _ _) get_at1 (.cons (.rlist (Nat.le_refl _) get_at (frz_of (.cons (.int _) (.cons (.int _) (.cons (.int _) .nil))))) (.cons (.rlist (by exact Nat.le_add_right _ _) get_at2 (frz_of (.cons (.int _) (.cons (.int _) (.cons (.int _) .nil))))) .nil)), q⟩
end
end
section
theorem EVo_none {C : Cx} {sc : Scope} {vars : Vars} {H : List AO} {Q : Option Int → List AO → Prop} (q : Q none H) : EVo C sc vars H none Q := q
theorem EVo_some {C : Cx} {sc : Scope} {vars : Vars} {H : List AO} {e : Expr} {Q : Option Int → List AO → Prop} (h : EV C sc vars H e fun v H1 => ∃ i, v = .int i ∧ Q (some i) H1) : EVo C sc vars H (some e) Q := h
theorem pslice_to {α : Type} {l : List α} {n : Nat} : pslice l none (some (n : Int)) = l.take n := by
  unfold pslice
  simp only [Option.elim_none, Option.elim_some, List.drop_zero, Nat.sub_zero]
  unfold clipAt
  rw [if_neg (by lia), cmn0, ← List.take_eq_take_min]
noncomputable def riskyT (w : List Nat) (bare : Bool) : List Nat := if bare then [10, 9, 13, 32, 92] ++ (if (w.take 1 == [34]) = true then [34] else []) else [34, 92]
noncomputable def escL (risky w : List Nat) : List (List Nat) := w.map fun c => if decide (c ∈ risky) = true then [92] ++ [c] else [c]
noncomputable def writtenT (w : List Nat) (bare : Bool) (blank : List Nat) : List Nat := if bare then (escL (riskyT w bare) w).flatten ++ blank else blank ++ [34] ++ (escL (riskyT w bare) w).flatten ++ [34]
theorem esc_len {risky : List Nat} : ∀ {w : List Nat}, (escL risky w).length = w.length := by intro w; unfold escL; rw [List.length_map]
theorem esc_sum {risky : List Nat} : ∀ {w : List Nat}, ((escL risky w).map List.length).sum ≤ 2 * w.length := by
  intro w
  induction w with
  | nil => simp [escL]
  | cons c w ih =>
    have : (escL risky (c :: w)) = (if decide (c ∈ risky) = true then [92] ++ [c] else [c]) :: escL risky w := rfl
    rw [this, List.map_cons, List.sum_cons]
    have : (if decide (c ∈ risky) = true then [92] ++ [c] else [c]).length ≤ 2 := by split <;> simp
    simp only [List.length_cons]; lia
theorem inter_nil (ls : List (List Nat)) : ([] : List Nat).intercalate ls = ls.flatten := by
  unfold List.intercalate
  induction ls with
  | nil => rfl
  | cons a l ih => cases l with
    | nil => rfl
    | cons b l => rw [List.intersperse_cons_cons]; simp at ih ⊢; exact ih
section
variable {C : Cx} {H : List AO}
theorem gm_join {l : List Nat} : GETM C H (.str l) (Str.ofString "join") (.builtin "str.join") := GETM_b .str PySem.F.plainAttrs_str PySem.F.slot_str_join PySem.F.type_str_join
theorem written_ok (G : GKB C.B) (hd : 1 < C.d) {w blank : List Nat} {bare : Bool} (hw : w.length ≤ 100) (hb : blank.length ≤ 100) {Q : AV → List AO → Prop} (q : Q (.str (writtenT w bare blank)) H) : CALL C H (.ref 165) [.str w, .bool bare, .str blank] Q := by
  refine CALL_pure G.ok (ar7 (by assumption) (by rfl)) (names := ["word", "bare", "blank"]) (by refine fnOk_of (by assumption) (by rfl) rfl (by kernel_rfl) rfl rfl rfl ?_ (by kernel_rfl) (by decide) (by kernel_rfl) rfl rfl rfl; exact bind3 fun _ _ _ => rfl) rfl ?_
  repeat km_tabs pj
  with_reducible refine EV_ifexp ?_
  repeat km_tabs pj
  cases bare with
  | true =>
    repeat km_tabs pj
    with_reducible refine EV_ifexp ?_
    repeat km_tabs pj
    refine SLICE_str (xs := w) (ar1 (by assumption) (by rfl)) ?_
    rw [show (1 : Int) = ((1 : Nat) : Int) from rfl, pslice_to]
    repeat km_tabs pj
    with_reducible refine OP_eqs ?_
    repeat km_tabs pj
    refine if_bool (fun z => ?_) (fun z => ?_)
    · repeat km_tabs pj
      refine OP_cat (by simp) ?_
      repeat km_tabs pj
      have er : riskyT w true = [10, 9, 13, 32, 92] ++ [34] := by unfold riskyT; rw [if_pos rfl, if_pos z]
      unfold writtenT at q; rw [er, if_pos rfl] at q
      refine ⟨_, gm_join, by kernel_rfl, ?_⟩
      repeat km_tabs pj
      with_reducible refine EVI_val ?_
      repeat km_tabs pj
      refine ITV_str ?_
      refine ⟨(escL ([10, 9, 13, 32, 92] ++ [34]) w).map .str, by rw [List.length_map, List.length_map, esc_len], by rw [List.length_map, esc_len]; exact ar1 (by assumption) (by rfl), fun j v hj => ?_, ?_⟩
      · rw [List.getElem?_map] at hj
        refine (Option.map_eq_some_iff.mp hj).elim fun c zz1 => zz1.elim fun hc zz2 => ?_; clear zz1; (first | subst zz2 | cases zz2)
        repeat km_tabs pj
        with_reducible refine EV_ifexp ?_
        repeat km_tabs pj
        refine OP_insign ?_
        repeat km_tabs pj
        have he : ((escL ([10, 9, 13, 32, 92] ++ [34]) w).map AV.str)[j]? = some (.str (if decide (c ∈ ([10, 9, 13, 32, 92] ++ [34])) = true then [92] ++ [c] else [c])) := by
          unfold escL; rw [List.getElem?_map, List.getElem?_map, hc]; rfl
        refine if_bool (fun z => ?_) (fun z => ?_)
        · repeat km_tabs pj
          refine OP_cat (by simp) ?_
          rw [if_pos z] at he
          exact ⟨rfl, he⟩
        · repeat km_tabs pj
          rw [if_neg (by rw [z]; decide)] at he
          exact he
      · repeat km_tabs pj
        have hs := esc_sum (risky := ([10, 9, 13, 32, 92] ++ [34])) (w := w)
        refine CALL_join .imm (by simp only [List.length_nil, Nat.mul_zero]; lia) ?_
        rw [inter_nil]
        repeat km_tabs pj
        with_reducible refine EV_ifexp ?_
        repeat km_tabs pj
        have hf : (escL ([10, 9, 13, 32, 92] ++ [34]) w).flatten.length ≤ 2 * w.length := by rw [List.length_flatten]; exact hs
        refine OP_cat (by lia) ?_
        repeat km_tabs pj
        exact frz_ok (.scp (.str _)) q rfl
    · repeat km_tabs pj
      refine OP_cat (by simp) ?_
      repeat km_tabs pj
      have er : riskyT w true = [10, 9, 13, 32, 92] ++ [] := by unfold riskyT; rw [if_pos rfl, if_neg (by rw [z]; decide)]
      unfold writtenT at q; rw [er, if_pos rfl] at q
      refine ⟨_, gm_join, by kernel_rfl, ?_⟩
      repeat km_tabs pj
      with_reducible refine EVI_val ?_
      repeat km_tabs pj
      refine ITV_str ?_
      refine ⟨(escL ([10, 9, 13, 32, 92] ++ []) w).map .str, by rw [List.length_map, List.length_map, esc_len], by rw [List.length_map, esc_len]; exact ar1 (by assumption) (by rfl), fun j v hj => ?_, ?_⟩
      · rw [List.getElem?_map] at hj
        refine (Option.map_eq_some_iff.mp hj).elim fun c zz1 => zz1.elim fun hc zz2 => ?_; clear zz1; (first | subst zz2 | cases zz2)
        repeat km_tabs pj
        with_reducible refine EV_ifexp ?_
        repeat km_tabs pj
        refine OP_insign ?_
        repeat km_tabs pj
        have he : ((escL ([10, 9, 13, 32, 92] ++ []) w).map AV.str)[j]? = some (.str (if decide (c ∈ ([10, 9, 13, 32, 92] ++ [])) = true then [92] ++ [c] else [c])) := by
          unfold escL; rw [List.getElem?_map, List.getElem?_map, hc]; rfl
        refine if_bool (fun z => ?_) (fun z => ?_)
        · repeat km_tabs pj
          refine OP_cat (by simp) ?_
          rw [if_pos z] at he
          exact ⟨rfl, he⟩
        · repeat km_tabs pj
          rw [if_neg (by rw [z]; decide)] at he
          exact he
      · repeat km_tabs pj
        have hs := esc_sum (risky := ([10, 9, 13, 32, 92] ++ [])) (w := w)
        refine CALL_join .imm (by simp only [List.length_nil, Nat.mul_zero]; lia) ?_
        rw [inter_nil]
        repeat km_tabs pj
        with_reducible refine EV_ifexp ?_
        repeat km_tabs pj
        have hf : (escL ([10, 9, 13, 32, 92] ++ []) w).flatten.length ≤ 2 * w.length := by rw [List.length_flatten]; exact hs
        refine OP_cat (by lia) ?_
        repeat km_tabs pj
        exact frz_ok (.scp (.str _)) q rfl
  | false =>
    repeat km_tabs pj
    have er : riskyT w false = [34, 92] := rfl
    unfold writtenT at q; rw [er, if_neg (by decide)] at q
    refine ⟨_, gm_join, by kernel_rfl, ?_⟩
    repeat km_tabs pj
    with_reducible refine EVI_val ?_
    repeat km_tabs pj
    refine ITV_str ?_
    refine ⟨(escL [34, 92] w).map .str, by rw [List.length_map, List.length_map, esc_len], by rw [List.length_map, esc_len]; exact ar1 (by assumption) (by rfl), fun j v hj => ?_, ?_⟩
    · rw [List.getElem?_map] at hj
      refine (Option.map_eq_some_iff.mp hj).elim fun c zz1 => zz1.elim fun hc zz2 => ?_; clear zz1; (first | subst zz2 | cases zz2)
      repeat km_tabs pj
      with_reducible refine EV_ifexp ?_
      repeat km_tabs pj
      refine OP_insign ?_
      repeat km_tabs pj
      have he : ((escL [34, 92] w).map AV.str)[j]? = some (.str (if decide (c ∈ [34, 92]) = true then [92] ++ [c] else [c])) := by
        unfold escL; rw [List.getElem?_map, List.getElem?_map, hc]; rfl
      refine if_bool (fun z => ?_) (fun z => ?_)
      · repeat km_tabs pj
        refine OP_cat (by simp) ?_
        rw [if_pos z] at he
        exact ⟨rfl, he⟩
      · repeat km_tabs pj
        rw [if_neg (by rw [z]; decide)] at he
        exact he
    · repeat km_tabs pj
      have hs := esc_sum (risky := [34, 92]) (w := w)
      refine CALL_join .imm (by simp only [List.length_nil, Nat.mul_zero]; lia) ?_
      rw [inter_nil]
      repeat km_tabs pj
      with_reducible refine EV_ifexp ?_
      repeat km_tabs pj
      have hf : (escL [34, 92] w).flatten.length ≤ 2 * w.length := by rw [List.length_flatten]; exact hs
      refine OP_cat (by simp; exact ar1 (by assumption) (by rfl)) ?_
      repeat km_tabs pj
      refine OP_cat (by simp; lia) ?_
      repeat km_tabs pj
      refine OP_cat (by simp; lia) ?_
      repeat km_tabs pj
      exact frz_ok (.scp (.str _)) q rfl
end
end
section
section
variable {C : Cx} {H : List AO}
theorem clsL (G : GKB C.B) : ClsOk C.B 125 101 := ⟨by rw [G.K]; kernel_rfl, by rw [G.K]; kernel_rfl, by rw [G.K]; kernel_rfl⟩
theorem lexer_ok (G : GKB C.B) (hd : 1 < C.d) (hF : FHi C) {text : List Nat} {Q : AV → List AO → Prop} (q : Q (.ref 3) (LX C.B.w.params (1 + (text.count 10 : Nat)) text [] [])) : CALL C [.opaq, .list (signs text)] (.ref 125) [.stream (rd C.B.w.params) (.ref 1)] Q := by
  refine CALL_new G.ok hd (clsL G) (names := ["self", "fp"]) (by refine fnOk_of (by assumption) (by rfl) rfl (by kernel_rfl) rfl rfl rfl ?_ (by kernel_rfl) (by decide) (by kernel_rfl) rfl rfl rfl; exact bind2 fun _ _ => rfl) rfl ?_
  dsimp only
  rw [show [AO.opaq, .list (signs text)] ++ [AO.ns []] ++ [AO.inst 125 [AO.opaq, .list (signs text)].length] = [.opaq, .list (signs text), .ns [], .inst 125 2] from rfl]
  repeat km_tabs pj
  with_reducible refine EX_attr (fun _ => by with_unfolding_all rfl) ?_
  repeat km_tabs pj
  refine SETA_ref G.ok (c := 125) (as := []) (d := 2) (by rw [G.K]; kernel_rfl) rfl rfl (hF.nin (by decide)) (Nat.le_of_ble_eq_true rfl) ?_
  repeat km_tabs pj
  with_reducible refine EX_attr (fun _ => by with_unfolding_all rfl) ?_
  repeat km_tabs pj
  refine SETA_ref G.ok (c := 125) (as := [("lineno", .int 1)]) (d := 2) (by rw [G.K]; kernel_rfl) rfl rfl (hF.nin (by decide)) (Nat.le_of_ble_eq_true rfl) ?_
  repeat km_tabs pj
  with_reducible refine EX_attr (fun _ => by with_unfolding_all rfl) ?_
  repeat km_tabs pj
  refine SETA_ref G.ok (c := 125) (as := [("lineno", .int 1), ("instream", .stream (rd C.B.w.params) (.ref 1))]) (d := 2) (by rw [G.K]; kernel_rfl) rfl rfl (hF.nin (by decide)) (Nat.le_of_ble_eq_true rfl) ?_
  repeat km_tabs pj
  with_reducible refine EX_attr (fun _ => by with_unfolding_all rfl) ?_
  repeat km_tabs pj
  refine EV_listM (by kernel_rfl) ?_
  repeat km_tabs pj
  refine ⟨Nat.le_of_ble_eq_true rfl, ?_⟩
  repeat km_tabs pj
  refine SETA_ref G.ok (c := 125) (as := [("lineno", .int 1), ("instream", .stream (rd C.B.w.params) (.ref 1)), ("whitespace", .str [10, 9, 13, 32])]) (d := 2) (by rw [G.K]; kernel_rfl) rfl rfl (hF.nin (by decide)) (Nat.le_of_ble_eq_true rfl) ?_
  repeat km_tabs pj
  have e : (1 : Int) + (text.count 10 : Nat) - (text.count 10 : Nat) = 1 := by omega
  unfold LX lxA at q
  rw [e] at q
  exact q
end
end
section
noncomputable def wd (p : Tr × Tr) : List Nat := p.1.lead ++ [256] ++ p.2.lead ++ [0]
noncomputable abbrev ruleAv (r : Rule) : AV := .tup [r.1.av, r.2.av]
noncomputable abbrev pairAv (r : Rule) : AV := .list [r.1.av, r.2.av]
noncomputable abbrev askAv (r : Rule) : AV := .tup [r.1.av, r.2.av, .list ((rowsT r.1 r.2).map rowAv)]
theorem lead_len (t : Tr) : t.lead.length = t.b + 3 * t.c + t.a := by
  unfold Tr.lead
  rw [List.length_append, List.length_append, rep_len, rep_len, rep_len]; simp; exact Nat.mul_comm _ _
theorem wsGo_app {c : Nat} {r : List Nat} (h1 : c ≠ 32) (h2 : c ≠ 9) : ∀ (l : List Nat) (s : WS), (∀ x ∈ l, x = 32 ∨ x = 9) → wsGo (l ++ c :: r) s = wsGo l s
  | [], s, _ => by rw [List.nil_append, wsGo_stop h1 h2]; rfl
  | x :: l, s, h => by
    rw [List.cons_append]
    rcases h x List.mem_cons_self with e | e <;> subst e <;> (unfold wsGo; simp only [if_true]; exact wsGo_app h1 h2 l _ fun y hy => h y (List.mem_cons_of_mem _ hy))
theorem lead_mem (t : Tr) : ∀ x ∈ t.lead, x = 32 ∨ x = 9 := by
  intro x hx
  unfold Tr.lead at hx
  simp only [List.mem_append, List.mem_flatten, List.mem_replicate] at hx
  rcases hx with (⟨l, ⟨_, rfl⟩, h⟩ | ⟨l, ⟨_, rfl⟩, h⟩) | ⟨l, ⟨_, rfl⟩, h⟩ <;> simp at h <;> omega
theorem ws_word {t : Tr} {c : Nat} {r : List Nat} (h1 : c ≠ 32) (h2 : c ≠ 9) : wsOf (t.lead ++ c :: r) = wsOf t.lead := wsGo_app h1 h2 _ _ (lead_mem t)
theorem small_mem {t : Tr} (h : t.sum ≤ 4) : t ∈ smallTr := by
  unfold smallTr allTr
  unfold Tr.sum at h
  simp only [List.mem_flatMap, List.mem_range, List.mem_map]
  exact ⟨t.a + t.b + t.c, by exact ar3 (by assumption) (by rfl), t.a, by lia, t.b, by lia, by show (⟨_, _, _⟩ : Tr) = t; congr 1; lia⟩
theorem ws_at {t : Tr} (h : t.sum ≤ 4) : (⟨(wsOf t.lead).b, (wsOf t.lead).count.getD 0 0, (wsOf t.lead).count.getD 2 0⟩ : Tr) = t ∧ (wsOf t.lead).n = t.lead.length ∧ (wsOf t.lead).count.length ≤ 3 ∧ ∀ k, k < 5 → (wsOf t.lead).level (k + 1) = t.col (k + 1) := by
  have := List.all_eq_true.mp ws_small t (small_mem h)
  simp only [Bool.and_eq_true, decide_eq_true_eq, List.all_eq_true, List.mem_range] at this
  refine this.elim fun zz1 h6 => zz1.elim fun zz2 h5 => zz2.elim fun zz3 h4 => zz3.elim fun zz4 h3 => zz4.elim fun h1 h2 => ?_; clear zz4 zz3 zz2 zz1; (try clear this)
  exact ⟨by rw [h1, h2, h3], h4, h5, h6⟩
theorem room_at {t u : Tr} (h : t.sum ≤ 4) (h' : u.sum ≤ 4) : max (wsOf t.lead).run (wsOf u.lead).run + 1 = t.room u ∧ t.room u ≤ 5 := by
  have := List.all_eq_true.mp (List.all_eq_true.mp room_small t (small_mem h)) u (small_mem h')
  simpa using this
theorem rows_at {t u : Tr} (h : t.sum ≤ 4) (h' : u.sum ≤ 4) : (wsOf t.lead).rows (wsOf u.lead) (max (wsOf t.lead).run (wsOf u.lead).run + 1) = rowsT t u := by
  refine (room_at h h').elim fun e z => ?_
  rw [e]
  unfold WS.rows rowsT
  congr 1
  refine List.map_congr_left fun k hk => ?_
  rw [List.mem_range] at hk
  rw [(ws_at h).2.2.2 k (ar43 (by assumption) (by assumption)), (ws_at h').2.2.2 k (ar43 (by assumption) (by assumption))]
theorem wd_len {p : Tr × Tr} : (wd p).length = p.1.lead.length + p.2.lead.length + 2 := by unfold wd; simp; exact rfl
theorem wd_eq (p : Tr × Tr) : wd p = p.1.lead ++ 256 :: (p.2.lead ++ [0]) := by unfold wd; simp
theorem wd_ne (p : Tr × Tr) : wd p ≠ [] ∧ wd p ≠ [46] := by
  have := wd_len (p := p)
  refine ⟨fun e => ?_, fun e => ?_⟩
  · rw [e] at this; simp at this
  · rw [e] at this; simp at this
theorem wd_drop (p : Tr × Tr) : (wd p).drop (p.1.lead.length + 1) = p.2.lead ++ [0] := by
  rw [wd_eq, List.drop_append, List.drop_eq_nil_of_le (by exact Nat.le_add_right _ _)]
  have : p.1.lead.length + 1 - p.1.lead.length = 1 := by exact ar37
  rw [this]; rfl
theorem wd_get1 (p : Tr × Tr) : (wd p)[p.1.lead.length]? = some 256 := by
  rw [wd_eq, List.getElem?_append_right (Nat.le_refl _), Nat.sub_self]; rfl
theorem wd_get2 (p : Tr × Tr) : (wd p)[p.1.lead.length + 1 + p.2.lead.length]? = some 0 := by
  rw [wd_eq, List.getElem?_append_right (by lia)]
  have : p.1.lead.length + 1 + p.2.lead.length - p.1.lead.length = p.2.lead.length + 1 := by lia
  rw [this, List.getElem?_cons_succ, List.getElem?_append_right (Nat.le_refl _), Nat.sub_self]; rfl
theorem pslice_from {α : Type} {l : List α} {n : Nat} : pslice l (some (n : Int)) none = l.drop n := by
  unfold pslice
  simp only [Option.elim_none, Option.elim_some]
  unfold clipAt
  rw [if_neg (by lia)]
  have h1 : (max 0 (min (n : Int) (l.length : Int))).toNat = min n l.length := by lia
  rw [h1]
  rcases Nat.le_total n l.length with h | h
  · rw [Nat.min_eq_left h, List.take_of_length_le (by rw [List.length_drop]; exact Nat.le_refl _)]
  · rw [Nat.min_eq_right h, List.drop_length, List.drop_eq_nil_of_le h, List.take_nil]
theorem newPairs_succ {big small : Tr} {kept : List Rule} {k : Nat} {r : Rule} (h : kept[k]? = some r) : newPairs big small (kept.take (k + 1)) = newPairs big small (kept.take k) ++
    if (big.top r.1).sum < big.sum + r.1.sum ∧ (big.top r.1).sum < 5 then [(((big.top r.1).sub big).add small, ((big.top r.1).sub r.1).add r.2)] else [] := by
  rw [take_succ_get h]
  unfold newPairs
  rw [List.filterMap_append]
  congr 1
  rw [List.filterMap_cons, List.filterMap_nil]
  dsimp only
  split <;> rename_i e <;> split at e <;> simp_all
theorem runF_cons {n : Nat} {p : Tr × Tr} {q : List (Tr × Tr)} {kept : List Rule} {asked : List (Tr × Tr)} {fin : RS} (h : runF (n + 1) ⟨p :: q, kept, asked⟩ = some fin) :
    ∃ x y, (∃ m, Down kept m p.1 x) ∧ (∃ m, Down kept m p.2 y) ∧ x.sum ≤ 4 ∧ y.sum ≤ 4 ∧ p.1.sum ≤ 4 ∧ p.2.sum ≤ 4 ∧ kept.length ≤ 20 ∧ q.length ≤ 900 ∧ asked.length ≤ 200 ∧ runF n (nextR ⟨p :: q, kept, asked⟩ x y q) = some fin := by
  obtain ⟨l, r⟩ := p
  unfold runF at h
  dsimp only at h
  split at h
  · cases h
  · rename_i s' e
    unfold stepR at e
    split at e
    · rename_i x y hx hy
      split at e
      · rename_i ok
        cases e
        unfold okR at ok
        simp only [Bool.and_eq_true, Nat.ble_eq] at ok
        obtain ⟨⟨⟨⟨⟨⟨o1, o2⟩, o3⟩, o4⟩, o5⟩, o6⟩, o7⟩ := ok
        exact ⟨x, y, down_of hx, down_of hy, o1, o2, o3, o4, o5, o6, o7, h⟩
      · cases e
    · cases e
theorem newPairs_len {big small : Tr} {kept : List Rule} : (newPairs big small kept).length ≤ kept.length := List.length_filterMap_le _ _
theorem cmax (a b : Nat) : max (a : Int) (b : Int) = ((max a b : Nat) : Int) := by omega
theorem top_int (s t : Tr) : max (s.a : Int) (t.a : Int) = ((s.top t).a : Nat) ∧ max (s.b : Int) (t.b : Int) = ((s.top t).b : Nat) ∧ max (s.c : Int) (t.c : Int) = ((s.top t).c : Nat) := by
  unfold Tr.top; dsimp only; exact ⟨cmax _ _, cmax _ _, cmax _ _⟩
theorem swap_int {s t u : Tr} : ((s.top t).a : Int) - s.a + u.a = ((((s.top t).sub s).add u).a : Nat) ∧ ((s.top t).b : Int) - s.b + u.b = ((((s.top t).sub s).add u).b : Nat) ∧ ((s.top t).c : Int) - s.c + u.c = ((((s.top t).sub s).add u).c : Nat) := by
  unfold Tr.top Tr.add Tr.sub; dsimp only; exact ⟨ai12 (Nat.le_max_left _ _), ai12 (Nat.le_max_left _ _), ai12 (Nat.le_max_left _ _)⟩
theorem swap_int' {s t u : Tr} : ((s.top t).a : Int) - t.a + u.a = ((((s.top t).sub t).add u).a : Nat) ∧ ((s.top t).b : Int) - t.b + u.b = ((((s.top t).sub t).add u).b : Nat) ∧ ((s.top t).c : Int) - t.c + u.c = ((((s.top t).sub t).add u).c : Nat) := by
  unfold Tr.top Tr.add Tr.sub; dsimp only; exact ⟨ai12 (Nat.le_max_right _ _), ai12 (Nat.le_max_right _ _), ai12 (Nat.le_max_right _ _)⟩
theorem add3 (p p' q q' r r' : Nat) : p + p' + (q + q') + (r + r') = p + q + r + (p' + q' + r') := by rw [Nat.add_add_add_comm p, Nat.add_add_add_comm (p + q)]
theorem swap_sum {s t u : Tr} : ((s.sub t).add u).sum ≤ s.sum + u.sum := by
  unfold Tr.add Tr.sub Tr.sum; dsimp only; rw [add3]; exact Nat.add_le_add_right (Nat.add_le_add (Nat.add_le_add (Nat.sub_le _ _) (Nat.sub_le _ _)) (Nat.sub_le _ _)) _
end
section
section
variable {C : Cx} {sc : Scope} {vars : Vars} {H : List AO} {N : Int} {left left' : List Nat}
theorem sum_ok {t : Tr} {Q : AV → List AO → Prop} (q : Q (.int (t.sum : Int)) H) : CALL C H (.builtin "sum") [t.av] Q := by
  refine CALL_sum (ns := [(t.a : Int), (t.b : Int), (t.c : Int)]) .imm ?_
  have e : ([(t.a : Int), (t.b : Int), (t.c : Int)].sum) = ((t.sum : Nat) : Int) := by unfold Tr.sum; simp; lia
  rw [e]; exact q
theorem gm_push (G : GKB C.B) {P : Params} {pb : List (List Nat)} {J : List AO} : GETM C (LX P N left pb J) (.ref 3) (Str.ofString "push_token") (.ref 122) := GETM_ref G.ok (c := 125) (d := 2) (as := lxA P N left) (by rw [G.K]; kernel_rfl) rfl rfl rfl
theorem gm_get (G : GKB C.B) {P : Params} {pb : List (List Nat)} {J : List AO} : GETM C (LX P N left pb J) (.ref 3) (Str.ofString "get_token") (.ref 115) := GETM_ref G.ok (c := 125) (d := 2) (as := lxA P N left) (by rw [G.K]; kernel_rfl) rfl rfl rfl
noncomputable abbrev J2 (s : RS) : List AO := [.list (s.kept.map ruleAv), .list (s.asked.map askAv)]
noncomputable def wordAt (s : RS) : List Nat := match s.queue with
  | [] => [46]
  | p :: _ => wd p
noncomputable def heapAt (P : Params) (N : Int) (left left' : List Nat) (s : RS) : List AO := match s.queue with
  | [] => LX P N left' [] (J2 s)
  | _ :: q => LX P N left (q.map wd) (J2 s)
theorem next_ok (G : GKB C.B) (hd : 4 < C.d) (hF : FHi C) (hF2 : FOk C 7) (ht : tokT left = ([46], left')) (hz : left.length ≤ 1000000) {s : RS} (hq : s.queue.length ≤ 1000) {Q : AV → List AO → Prop} (q : Q (.str (wordAt s)) (heapAt C.B.w.params N left left' s)) :
    CALL C (LX C.B.w.params N left (s.queue.map wd) (J2 s)) (.ref 115) [.ref 3] Q := by
  unfold wordAt heapAt at q
  cases hs : s.queue with
  | nil =>
    rw [hs] at q
    refine tok_read (J := J2 s) G hd hF hF2 hz ?_
    rw [ht]; exact q
  | cons p r =>
    rw [hs] at q
    refine tok_pop (pb := r.map wd) (J := J2 s) G (by exact ar7 (by assumption) (by rfl)) hF (by rw [hs] at hq; simp at hq ⊢; exact ar1 (by assumption) (by rfl)) q
theorem lx_drops {P : Params} {J K : List AO} {left left' : List Nat} {pb pb' : List (List Nat)} {Q : AV → List AO → Prop} {v v' : AV} (hf : Frz (LX P N left pb J).length (LX P N left' pb' (J ++ K)) v v') (q : Q v' (LX P N left' pb' J)) :
    (LX P N left pb J).length ≤ (LX P N left' pb' (J ++ K)).length ∧ (∀ (i : Nat) o, i < (LX P N left pb J).length → (LX P N left' pb' (J ++ K))[i]? = some o → (LX P N left pb J)[i]? = some o ∨ ScpO (LX P N left pb J).length o) ∧
    ∃ v', Frz (LX P N left pb J).length (LX P N left' pb' (J ++ K)) v v' ∧ Q v' ((LX P N left' pb' (J ++ K)).take (LX P N left pb J).length) := by
  refine ⟨by simp, fun i o hi e => ?_, v', hf, ?_⟩
  · have hl : (LX P N left pb J).length = J.length + 5 := rfl
    match i, hi, e with
    | 0, _, e => exact .inl e
    | 1, _, e => cases e; exact .inr (.list (scps_map fun _ _ => .str _))
    | 2, _, e => cases e; exact .inr (.ns (.cons (.int _) (.cons (.stream (.ref (by rw [hl]; exact Nat.le_of_ble_eq_true rfl))) (.cons (.str _) (.cons (.ref (by rw [hl]; exact Nat.le_of_ble_eq_true rfl)) .nil)))))
    | 3, _, e => exact .inl e
    | 4, _, e => cases e; exact .inr (.list (scps_map fun _ _ => .str _))
    | i + 5, hi, e =>
      have hi' : i < J.length := by rw [hl] at hi; exact ar58 (by assumption)
      have e' : (J ++ K)[i]? = some o := e
      rw [List.getElem?_append_left hi'] at e'
      exact .inl e'
  · have : (LX P N left' pb' (J ++ K)).take (LX P N left pb J).length = LX P N left' pb' J := by
      show AO.opaq :: AO.list (signs left') :: .ns (lxA P N left') :: .inst 125 2 :: .list (wds pb') :: (J ++ K).take J.length = _
      rw [List.take_left]
    rw [this]; exact q
noncomputable def rowDt (r : Nat × Nat × Nat) : Dt := .tup [.int (r.1 : Int), .int (r.2.1 : Int), .int (r.2.2 : Int)]
theorem rows_dats {H : List AO} {l : List (Nat × Nat × Nat)} : Dats H (l.map rowAv) (l.map rowDt) := Dats.map fun r _ => .tup (.cons (.int _) (.cons (.int _) (.cons (.int _) .nil)))
theorem lrun_ok (G : GKB C.B) (hd : 8 < C.d) (hF : FHi C) (hF2 : FOk C 5) {prs : List (Tr × Tr)} (hp : prs.length ≤ 10) (hs : ∀ p ∈ prs, p.1.sum ≤ 4 ∧ p.2.sum ≤ 4) {n : Nat} {fin : RS} (hr : runF n ⟨prs, [], []⟩ = some fin) (ht : tokT left = ([46], left')) (hz : left.length ≤ 1000000)
    {Q : AV → List AO → Prop} (q : Q (.tup [.list (fin.kept.map ruleAv), .list (fin.asked.map askAv), .str [46]]) (LX C.B.w.params N left' [] [])) : CALL C (LX C.B.w.params N left [] []) (.ref 196) [.ref 3, .list (prs.map pairAv)] Q := by
  refine CALL_drop G.ok (by exact ar7 (by assumption) (by rfl)) (names := ["lexer", "pairs"]) (by refine fnOk_of (by assumption) (by rfl) rfl (by kernel_rfl) rfl rfl rfl ?_ (by kernel_rfl) (by decide) (by kernel_rfl) rfl rfl rfl; exact bind2 fun _ _ => rfl) rfl ?_
  repeat km_tabs pj
  refine EX_swap ["kept", "asked"] (fun _ => by with_unfolding_all rfl) (fun _ hE => (swapsE hE.scope).trans (by kernel_rfl)) (by kernel_rfl) ?_
  repeat km_tabs pj
  refine EV_listM (by kernel_rfl) ?_
  repeat km_tabs pj
  refine ⟨Nat.le_of_ble_eq_true rfl, ?_⟩
  repeat km_tabs pj
  refine EV_listM (by kernel_rfl) ?_
  repeat km_tabs pj
  refine ⟨Nat.le_of_ble_eq_true rfl, ?_⟩
  repeat km_tabs pj
  refine ⟨Nat.le_of_ble_eq_true rfl, ?_⟩
  repeat km_tabs pj
  generalize hP : C.B.w.params = P at q ⊢
  refine EX.mono (Q := fun f v H' => f = .next ∧ Sub [("lexer", .ref 3), ("kept", .ref 5), ("asked", .ref 6)] v ∧ H' = LX P N left (prs.map wd) [.list [], .list []]) ?_ ?_
  · refine EX_forV (fun (_ : Unit) => [("lexer", .ref 3), ("kept", .ref 5), ("asked", .ref 6)]) (fun xs k _ H' => xs = prs.map pairAv ∧ H' = LX P N left ((prs.take k).map wd) [.list [], .list []]) (fun _ _ => by with_unfolding_all rfl) ?_
    repeat km_tabs pj
    with_reducible refine EVI_val ?_
    repeat km_tabs pj
    refine ITV_list ?_
    refine ⟨⟨(), .cons rfl (.cons rfl (.cons rfl .nil)), rfl, rfl⟩, ?_, ?_⟩
    · intro k x _ H' hk zz1; refine zz1.elim fun _ zz2 => ?_; clear zz1; (first | subst zz2 | cases zz2)
      rw [List.getElem?_map] at hk
      refine (Option.map_eq_some_iff.mp hk).elim fun p zz1 => zz1.elim fun hp1 zz2 => ?_; clear zz1; (first | subst zz2 | cases zz2)
      refine (hs p (List.mem_of_getElem? hp1)).elim fun s1 s2 => ?_
      repeat km_tabs pj
      with_reducible refine AS_tuple (by kernel_rfl) ?_
      repeat km_tabs pj
      with_reducible refine UNP_list (by with_unfolding_all rfl) ?_
      repeat km_tabs pj
      with_reducible refine ASs_nil ?_
      repeat km_tabs pj
      with_reducible refine EX_expr (fun _ => by with_unfolding_all rfl) ?_
      repeat km_tabs pj
      refine ⟨_, gm_push (by assumption), by kernel_rfl, ?_⟩
      repeat km_tabs pj
      refine lead_ok (by assumption) (by km_tabs pj_d) (by exact ar1 (by assumption) (by rfl)) ?_
      repeat km_tabs pj
      refine CALL_chr (by decide) (by decide) ?_
      refine OP_cat (by rw [lead_len]; simp; unfold Tr.sum at s1; exact ar52 (by assumption) (by rfl)) ?_
      repeat km_tabs pj
      refine lead_ok (by assumption) (by km_tabs pj_d) (by exact ar1 (by assumption) (by rfl)) ?_
      refine OP_cat (by rw [List.length_append, lead_len, lead_len]; simp; unfold Tr.sum at s1 s2; lia) ?_
      repeat km_tabs pj
      refine CALL_chr (by decide) (by decide) ?_
      refine OP_cat (by rw [List.length_append, List.length_append, lead_len, lead_len]; simp; unfold Tr.sum at s1 s2; lia) ?_
      repeat km_tabs pj
      refine push_ok (C := C.down.hold []) (pb := (prs.take k).map wd) (by assumption) (by km_tabs pj_d) hF (by rw [List.length_map, List.length_take]; lia) ?_
      repeat km_tabs pj
      refine ⟨(), .cons rfl (.cons rfl (.cons rfl .nil)), rfl, ?_⟩
      rw [take_succ_get hp1, List.map_append]; rfl
    · rintro _ v2 H' h2 ⟨-, rfl⟩
      rw [List.length_map, List.take_length]
      exact ⟨rfl, h2, rfl⟩
  · rintro f v H' ⟨rfl, hv, rfl⟩
    refine seqK_next (EXs.sub hv ?_)
    have hq : prs.length ≤ 1000 := by exact ar1 (by assumption) (by rfl)
    clear hs hp
    repeat km_tabs pj
    refine ⟨_, gm_get (by assumption), by kernel_rfl, ?_⟩
    repeat km_tabs pj
    subst hP
    refine next_ok (C := C.down) (s := ⟨prs, [], []⟩) G (by km_tabs pj_d) hF (fun i hi => Nat.lt_trans (hF2 i hi) (by decide)) ht hz hq ?_
    repeat km_tabs pj
    refine EX.mono (Q := fun f v H' => f = .next ∧ Sub [("kept", .ref 5), ("asked", .ref 6), ("word", .str [46])] v ∧ H' = LX C.B.w.params N left' [] (J2 fin)) ?_ ?_
    · refine EX_whileV (fun (s : RS) => [("lexer", .ref 3), ("kept", .ref 5), ("asked", .ref 6), ("word", .str (wordAt s))]) (fun n s H' => runF n s = some fin ∧ s.queue.length ≤ 1000 ∧ (∀ r ∈ s.kept, r.2.sum ≤ 4) ∧ H' = heapAt C.B.w.params N left left' s) ?_ n ⟨prs, [], []⟩ ?_ ⟨hr, hq, fun _ h => (by cases h), rfl⟩
      · rintro m ⟨queue, kept, asked⟩ H' ⟨hr1, hq1, hkept, rfl⟩
        clear hr
        cases m with
        | zero => cases hr1
        | succ m =>
          cases queue with
          | nil =>
            cases hr1
            dsimp only [wordAt, heapAt]
            repeat km_tabs pj
            with_reducible refine ETs_cons ?_
            repeat km_tabs pj
            with_reducible refine OP_nes ?_
            repeat km_tabs pj
            refine if_bool (fun _ => ?_) (fun z => absurd z (by decide))
            repeat km_tabs pj
            with_reducible refine ETs_cons ?_
            repeat km_tabs pj
            with_reducible refine OP_nes ?_
            repeat km_tabs pj
            refine if_bool (fun z => absurd z (by decide)) (fun _ => ?_)
            repeat km_tabs pj
            exact fun v2 hv2 => ⟨rfl, .cons (hv2 _ _ rfl) (.cons (hv2 _ _ rfl) (.cons (hv2 _ _ rfl) .nil)), rfl⟩
          | cons p q' =>
            refine (runF_cons hr1).elim fun x zz1 => zz1.elim fun y zz2 => zz2.elim fun zz3 zz4 => zz3.elim fun m1 d1 => zz4.elim fun zz5 zz6 => zz5.elim fun m2 d2 => zz6.elim fun o1 zz7 => zz7.elim fun o2 zz8 => zz8.elim fun o3 zz9 => zz9.elim fun o4 zz10 => zz10.elim fun o5 zz11 => zz11.elim fun o6 zz12 => zz12.elim fun o7 hr2 => ?_; clear zz12 zz11 zz10 zz9 zz8 zz7 zz6 zz5 zz4 zz3 zz2 zz1
            clear hr1 hq1
            refine (ws_at o3).elim fun e1 zz1 => zz1.elim fun e2 zz2 => zz2.elim fun e3 e4 => ?_; clear zz2 zz1
            refine (ws_at o4).elim fun f1 zz1 => zz1.elim fun f2 zz2 => zz2.elim fun f3 f4 => ?_; clear zz2 zz1
            have l1 : p.1.lead.length ≤ 12 := by rw [lead_len]; unfold Tr.sum at o3; exact ar52 (by assumption) (by rfl)
            have l2 : p.2.lead.length ≤ 12 := by rw [lead_len]; unfold Tr.sum at o4; exact ar52 (by assumption) (by rfl)
            have g1 : wsOf (wd p) = wsOf p.1.lead := by rw [wd_eq]; exact ws_word (by decide) (by decide)
            have g2 : wsOf (p.2.lead ++ [0]) = wsOf p.2.lead := ws_word (by decide) (by decide)
            have hF7 : ∀ {d : Cx} {K : List AO}, d.F = C.F → 5 ≤ K.length → FOk d K.length := fun e hK i hi => Nat.lt_of_lt_of_le (hF2 i (e ▸ hi)) hK
            dsimp only [wordAt, heapAt]
            repeat km_tabs pj
            with_reducible refine ETs_cons ?_
            repeat km_tabs pj
            with_reducible refine OP_nes ?_
            repeat km_tabs pj
            refine if_bool (fun _ => ?_) (fun z => absurd z (by simp [(wd_ne p).1]))
            repeat km_tabs pj
            with_reducible refine ETs_cons ?_
            repeat km_tabs pj
            with_reducible refine OP_nes ?_
            repeat km_tabs pj
            refine if_bool (fun _ => ?_) (fun z => absurd z (by simp [(wd_ne p).2]))
            repeat km_tabs pj
            with_reducible refine ETs_nil ?_
            repeat km_tabs pj
            refine white_ok (C := C.down) (by assumption) (by km_tabs pj_d) (hF7 rfl (by simp)) (by rw [wd_len]; lia) ?_
            rw [g1]
            repeat km_tabs pj
            with_reducible refine EV_attr (fun _ => by with_unfolding_all rfl) ?_
            repeat km_tabs pj
            refine ⟨_, ga_n (by assumption), ?_⟩
            repeat km_tabs pj
            refine SLICE_str (xs := wd p) (by rw [wd_len]; lia) ?_
            have e5 : ((wsOf p.1.lead).n : Int) + 1 = ((p.1.lead.length + 1 : Nat) : Int) := by rw [e2]; push_cast; rfl
            rw [e5, pslice_from, wd_drop]
            repeat km_tabs pj
            refine white_ok (C := C.down) (by assumption) (by km_tabs pj_d) (hF7 rfl (by simp)) (by simp; exact ar1 (by assumption) (by rfl)) ?_
            rw [g2]
            repeat km_tabs pj
            with_reducible refine ETs_ocons ?_
            repeat km_tabs pj
            with_reducible refine EV_attr (fun _ => by with_unfolding_all rfl) ?_
            repeat km_tabs pj
            refine ⟨_, ga_n (by assumption), ?_⟩
            refine SUB_str (by exact ai1) (c := 256) (by rw [Int.toNat_natCast, e2]; exact wd_get1 p) (by rw [wd_len]; lia) ?_
            repeat km_tabs pj
            refine CALL_ord ?_
            repeat km_tabs pj
            refine isnonterminal_ok (by assumption) (by km_tabs pj_d) ?_
            repeat km_tabs pj
            refine if_bool (fun z => absurd z (by decide)) (fun _ => ?_)
            repeat km_tabs pj
            with_reducible refine ETs_ocons ?_
            repeat km_tabs pj
            with_reducible refine EV_attr (fun _ => by with_unfolding_all rfl) ?_
            repeat km_tabs pj
            refine ⟨_, ga_n (by assumption), ?_⟩
            repeat km_tabs pj
            with_reducible refine EV_attr (fun _ => by with_unfolding_all rfl) ?_
            repeat km_tabs pj
            refine ⟨_, ga_n (by assumption), ?_⟩
            repeat km_tabs pj
            refine SUB_str (by exact ai1) (c := 0) (by rw [e2, f2, show ((p.1.lead.length : Int) + 1 + (p.2.lead.length : Int)).toNat = p.1.lead.length + 1 + p.2.lead.length by exact rfl]; exact wd_get2 p) (by rw [wd_len]; lia) ?_
            repeat km_tabs pj
            refine CALL_ord ?_
            repeat km_tabs pj
            refine iseof_ok (by assumption) (by km_tabs pj_d) ?_
            repeat km_tabs pj
            refine if_bool (fun z => absurd z (by decide)) (fun _ => ?_)
            repeat km_tabs pj
            with_reducible refine ETs_onil ?_
            repeat km_tabs pj
            refine EX_swap ["x", "y"] (fun _ => by with_unfolding_all rfl) (fun _ hE => (swapsE hE.scope).trans (by kernel_rfl)) (by kernel_rfl) ?_
            repeat km_tabs pj
            refine pieces_ok (C := C.down) (by assumption) (by km_tabs pj_d) (by exact ar1 (by assumption) (by rfl)) ?_
            rw [e1]
            repeat km_tabs pj
            refine down_ok (C := C.down) (by assumption) (by km_tabs pj_d) (kept := kept) (.ref (by rfl)) (by exact ar1 (by assumption) (by rfl)) d1 ?_
            repeat km_tabs pj
            refine pieces_ok (C := C.down) (by assumption) (by km_tabs pj_d) (by exact ar1 (by assumption) (by rfl)) ?_
            rw [f1]
            repeat km_tabs pj
            refine down_ok (C := C.down) (by assumption) (by km_tabs pj_d) (kept := kept) (.ref (by rfl)) (by exact ar1 (by assumption) (by rfl)) d2 ?_
            repeat km_tabs pj
            refine ⟨Nat.le_of_ble_eq_true rfl, ?_⟩
            repeat km_tabs pj
            have l3 : x.lead.length ≤ 12 := by rw [lead_len]; unfold Tr.sum at o1; exact ar52 (by assumption) (by rfl)
            have l4 : y.lead.length ≤ 12 := by rw [lead_len]; unfold Tr.sum at o2; exact ar52 (by assumption) (by rfl)
            refine (room_at o1 o2).elim fun r1 r2 => ?_
            refine lead_ok (C := C.down) (by assumption) (by km_tabs pj_d) (by exact ar1 (by assumption) (by rfl)) ?_
            repeat km_tabs pj
            refine white_ok (C := C.down) (by assumption) (by km_tabs pj_d) (hF7 rfl (by simp)) (by exact ar1 (by assumption) (by rfl)) ?_
            repeat km_tabs pj
            refine ⟨_, gm_wit (by assumption), by kernel_rfl, ?_⟩
            repeat km_tabs pj
            refine lead_ok (C := C.down) (by assumption) (by km_tabs pj_d) (by exact ar1 (by assumption) (by rfl)) ?_
            repeat km_tabs pj
            refine white_ok (C := C.down) (by assumption) (by km_tabs pj_d) (hF7 rfl (by simp)) (by exact ar1 (by assumption) (by rfl)) ?_
            repeat km_tabs pj
            refine wit_ok (C := C.down) (by assumption) (by km_tabs pj_d) (hF7 rfl (by simp)) (by lia) (by lia) ?_
            rw [rows_at o1 o2]
            have r3 : (rowsT x y).length ≤ 5 := by
              rw [← rows_at o1 o2]; exact Nat.le_trans (WS.rows_len _ _ _) (by exact ar61 (by assumption) (by assumption) (by rfl))
            repeat km_tabs pj
            with_reducible refine EX_expr (fun _ => by with_unfolding_all rfl) ?_
            repeat km_tabs pj
            refine ⟨_, gm_append (i := 6) (xs := asked.map askAv) (by rfl), by kernel_rfl, ?_⟩
            repeat km_tabs pj
            refine ⟨Nat.le_of_ble_eq_true rfl, ?_⟩
            refine CALL_append (i := 6) (xs := asked.map askAv) (by rfl) (fun h => absurd (hF2 6 h) (by decide)) (by rw [List.length_map]; exact ar1 (by assumption) (by rfl)) ?_
            rw [show (LX C.B.w.params N left (q'.map wd) (J2 ⟨p :: q', kept, asked⟩)).set 6 (.list (asked.map askAv ++ [askAv (x, y)])) = LX C.B.w.params N left (q'.map wd) [.list (kept.map ruleAv), .list ((asked ++ [(x, y)]).map askAv)] by rw [List.map_append]; rfl]
            repeat km_tabs pj
            refine EV_list (by kernel_rfl) ?_
            repeat km_tabs pj
            refine ⟨Nat.le_of_ble_eq_true rfl, ?_⟩
            refine OP_ned (n := 2) (.list rows_dats) (.list .nil) (.list fun i x y _ h => by simp at h) (by decide) (fun r hr => ?_)
            repeat km_tabs pj
            cases hrow : rowsT x y with
            | nil =>
              have hr0 : r = false := by
                cases r with
                | false => rfl
                | true => exact absurd (by rw [hrow]; rfl) (hr.mp rfl)
              subst hr0
              have hn : nextR ⟨p :: q', kept, asked⟩ x y q' = ⟨q', kept, asked ++ [(x, y)]⟩ := by unfold nextR; rw [hrow]
              rw [hn] at hr2
              repeat km_tabs pj
              refine ⟨_, gm_get (by assumption), by kernel_rfl, ?_⟩
              repeat km_tabs pj
              refine next_ok (C := C.down) (s := ⟨q', kept, asked ++ [(x, y)]⟩) G (by km_tabs pj_d) hF (fun i hi => Nat.lt_trans (hF2 i hi) (by decide)) ht hz (by dsimp only; exact ar1 (by assumption) (by rfl)) ?_
              repeat km_tabs pj
              exact ⟨m, ⟨q', kept, asked ++ [(x, y)]⟩, Nat.lt_succ_self _, .cons rfl (.cons rfl (.cons rfl (.cons rfl .nil))), hr2, by dsimp only; exact ar1 (by assumption) (by rfl), hkept, rfl⟩
            | cons w ws =>
              have hr0 : r = true := hr.mpr (by rw [hrow]; simp)
              subst hr0
              have hn : nextR ⟨p :: q', kept, asked⟩ x y q' = ⟨q' ++ newPairs (keepR x y).1 (keepR x y).2 kept, kept ++ [keepR x y], asked ++ [(x, y)]⟩ := by unfold nextR; rw [hrow]
              rw [hn] at hr2
              have hlen : (w :: ws).length ≤ 5 := hrow ▸ r3
              have hk : keepR x y = if (w.2.2 : Nat) < w.2.1 then (x, y) else (y, x) := by unfold keepR; rw [hrow]
              have ks : (keepR x y).1.sum ≤ 4 ∧ (keepR x y).2.sum ≤ 4 := by rw [hk]; split <;> exact ⟨by assumption, by assumption⟩
              refine if_tt ?_
              refine EXs_seq ?_
              refine EX_assign_to (fun _ => by with_unfolding_all rfl) (fun _ _ => by with_unfolding_all rfl) (fun _ => by with_unfolding_all rfl) ?_
              refine EV.mono (Q := fun v H' => v = .tup [(keepR x y).1.av, (keepR x y).2.av] ∧ H' = LX C.B.w.params N left (q'.map wd) [.list (kept.map ruleAv), .list ((asked ++ [(x, y)]).map askAv)]) ?_ ?_
              · repeat km_tabs pj
                with_reducible refine EV_ifexp ?_
                repeat km_tabs pj
                refine SUB_list (by decide) (v := .tup [.int (w.1 : Int), .int (w.2.1 : Int), .int (w.2.2 : Int)]) rfl (by rw [List.length_map]; exact ar1 (by assumption) (by rfl)) ?_
                repeat km_tabs pj
                with_reducible refine SUB_tup (by decide) (by with_unfolding_all rfl) (by with_unfolding_all exact Nat.le_of_ble_eq_true rfl) ?_
                repeat km_tabs pj
                refine SUB_list (by decide) (v := .tup [.int (w.1 : Int), .int (w.2.1 : Int), .int (w.2.2 : Int)]) rfl (by rw [List.length_map]; exact ar1 (by assumption) (by rfl)) ?_
                repeat km_tabs pj
                with_reducible refine SUB_tup (by decide) (by with_unfolding_all rfl) (by with_unfolding_all exact Nat.le_of_ble_eq_true rfl) ?_
                repeat km_tabs pj
                with_reducible refine OP_gt ?_
                repeat km_tabs pj
                refine if_dec (fun z => ?_) (fun z => ?_)
                · repeat km_tabs pj
                  exact ⟨Nat.le_of_ble_eq_true rfl, by rw [hk, if_pos (by exact ai2 (by assumption))], rfl⟩
                · repeat km_tabs pj
                  exact ⟨Nat.le_of_ble_eq_true rfl, by rw [hk, if_neg (by lia)], rfl⟩
              · rintro v H' ⟨rfl, rfl⟩
                clear hk
                generalize keepR x y = kr at ks hr2 hn ⊢
                obtain ⟨big, small⟩ := kr
                dsimp only at ks hr2 ⊢
                repeat km_tabs pj
                with_reducible refine AS_tuple (by kernel_rfl) ?_
                repeat km_tabs pj
                with_reducible refine ASs_nil ?_
                repeat km_tabs pj
                refine EX.mono (Q := fun f v H' => f = .next ∧ Sub [("lexer", .ref 3), ("kept", .ref 5), ("asked", .ref 6), ("big", big.av), ("small", small.av)] v ∧ H' = LX C.B.w.params N left ((q' ++ newPairs big small kept).map wd) [.list (kept.map ruleAv), .list ((asked ++ [(x, y)]).map askAv)]) ?_ ?_
                · refine EX_forV (fun (_ : Unit) => [("lexer", .ref 3), ("kept", .ref 5), ("asked", .ref 6), ("big", big.av), ("small", small.av)]) (fun xs k _ H' => xs = kept.map ruleAv ∧ H' = LX C.B.w.params N left ((q' ++ newPairs big small (kept.take k)).map wd) [.list (kept.map ruleAv), .list ((asked ++ [(x, y)]).map askAv)]) (fun _ _ => by with_unfolding_all rfl) ?_
                  repeat km_tabs pj
                  with_reducible refine EVI_val ?_
                  repeat km_tabs pj
                  refine ITV_ref (k := 5) (xs := kept.map ruleAv) (by rfl) ?_
                  refine ⟨⟨(), .cons rfl (.cons rfl (.cons rfl (.cons rfl (.cons rfl .nil)))), rfl, by simp [newPairs]⟩, ?_, ?_⟩
                  · intro k v0 _ H' hk zz1; refine zz1.elim fun _ zz2 => ?_; clear zz1; (first | subst zz2 | cases zz2)
                    rw [List.getElem?_map] at hk
                    refine (Option.map_eq_some_iff.mp hk).elim fun u zz1 => zz1.elim fun hu zz2 => ?_; clear zz1; (first | subst zz2 | cases zz2)
                    have hlp := newPairs_len (big := big) (small := small) (kept := kept.take k)
                    rw [List.length_take] at hlp
                    repeat km_tabs pj
                    with_reducible refine AS_tuple (by kernel_rfl) ?_
                    repeat km_tabs pj
                    with_reducible refine ASs_nil ?_
                    repeat km_tabs pj
                    with_reducible refine EX_assign' (fun _ hE => swaps_no hE (by kernel_rfl!)) (by kernel_rfl) ?_
                    repeat km_tabs pj
                    with_reducible refine EVI_range1 (GW.ok (by assumption)) (by kernel_rfl) (fun _ => by with_unfolding_all rfl) ?_
                    repeat km_tabs pj
                    refine ⟨by decide, [.int (max (big.a : Int) u.1.a), .int (max (big.b : Int) u.1.b), .int (max (big.c : Int) u.1.c)], rfl, Nat.le_of_ble_eq_true rfl, fun j v hj => ?_, ?_⟩
                    · have : j < 3 := lt_of_get hj
                      have : j = 0 ∨ j = 1 ∨ j = 2 := by exact ar25 (by assumption)
                      rcases this with e | e | e <;> subst e <;> (cases hj; repeat km_tabs pj) <;> refine CALL_max2 ?_ <;> exact ⟨rfl, rfl⟩
                    · rw [(top_int big u.1).1, (top_int big u.1).2.1, (top_int big u.1).2.2]
                      repeat km_tabs pj
                      with_reducible refine ETs_cons ?_
                      repeat km_tabs pj
                      refine sum_ok (t := big.top u.1) ?_
                      repeat km_tabs pj
                      refine sum_ok (t := big) ?_
                      repeat km_tabs pj
                      refine sum_ok (t := u.1) ?_
                      repeat km_tabs pj
                      with_reducible refine OP_lt ?_
                      repeat km_tabs pj
                      have hns := newPairs_succ (big := big) (small := small) hu
                      refine if_dec (fun z1 => ?_) (fun z1 => ?_)
                      · repeat km_tabs pj
                        with_reducible refine ETs_cons ?_
                        repeat km_tabs pj
                        refine sum_ok (t := big.top u.1) ?_
                        repeat km_tabs pj
                        with_reducible refine OP_lt ?_
                        repeat km_tabs pj
                        refine if_dec (fun z2 => ?_) (fun z2 => ?_)
                        · have hu4 := hkept u (List.mem_of_getElem? hu)
                          have s1 := swap_sum (s := big.top u.1) (t := big) (u := small)
                          have s2 := swap_sum (s := big.top u.1) (t := u.1) (u := u.2)
                          rw [if_pos ⟨by exact ai2 (by assumption), by exact ai2 (by assumption)⟩] at hns
                          repeat km_tabs pj
                          with_reducible refine ETs_nil ?_
                          repeat km_tabs pj
                          with_reducible refine EVI_range1 (GW.ok (by assumption)) (by kernel_rfl) (fun _ => by with_unfolding_all rfl) ?_
                          repeat km_tabs pj
                          refine ⟨by decide, [.int (((big.top u.1).a : Int) - big.a + small.a), .int (((big.top u.1).b : Int) - big.b + small.b), .int (((big.top u.1).c : Int) - big.c + small.c)], rfl, Nat.le_of_ble_eq_true rfl, fun j v hj => ?_, ?_⟩
                          · have : j < 3 := lt_of_get hj
                            have : j = 0 ∨ j = 1 ∨ j = 2 := by exact ar25 (by assumption)
                            rcases this with e | e | e <;> subst e <;> (cases hj; repeat km_tabs pj) <;> rfl
                          · rw [swap_int.1, swap_int.2.1, swap_int.2.2]
                            repeat km_tabs pj
                            refine lead_ok (t := ((big.top u.1).sub big).add small) (by assumption) (by km_tabs pj_d) (by lia) ?_
                            repeat km_tabs pj
                            with_reducible refine EVI_range1 (GW.ok (by assumption)) (by kernel_rfl) (fun _ => by with_unfolding_all rfl) ?_
                            repeat km_tabs pj
                            refine ⟨by decide, [.int (((big.top u.1).a : Int) - u.1.a + u.2.a), .int (((big.top u.1).b : Int) - u.1.b + u.2.b), .int (((big.top u.1).c : Int) - u.1.c + u.2.c)], rfl, Nat.le_of_ble_eq_true rfl, fun j v hj => ?_, ?_⟩
                            · have : j < 3 := lt_of_get hj
                              have : j = 0 ∨ j = 1 ∨ j = 2 := by exact ar25 (by assumption)
                              rcases this with e | e | e <;> subst e <;> (cases hj; repeat km_tabs pj) <;> rfl
                            · rw [swap_int'.1, swap_int'.2.1, swap_int'.2.2]
                              repeat km_tabs pj
                              refine lead_ok (t := ((big.top u.1).sub u.1).add u.2) (by assumption) (by km_tabs pj_d) (by lia) ?_
                              generalize ((big.top u.1).sub big).add small = tl at s1 hns ⊢
                              generalize ((big.top u.1).sub u.1).add u.2 = tr at s2 hns ⊢
                              have t1 : tl.lead.length ≤ 30 := by rw [lead_len]; unfold Tr.sum at *; lia
                              have t2 : tr.lead.length ≤ 30 := by rw [lead_len]; unfold Tr.sum at *; lia
                              repeat km_tabs pj
                              with_reducible refine EX_expr (fun _ => by with_unfolding_all rfl) ?_
                              repeat km_tabs pj
                              refine ⟨_, gm_push (by assumption), by kernel_rfl, ?_⟩
                              repeat km_tabs pj
                              refine CALL_chr (by decide) (by decide) ?_
                              refine OP_cat (by simp; exact ar1 (by assumption) (by rfl)) ?_
                              repeat km_tabs pj
                              refine OP_cat (by simp; exact ar79 (by assumption) (by assumption) (by rfl)) ?_
                              repeat km_tabs pj
                              refine CALL_chr (by decide) (by decide) ?_
                              refine OP_cat (by simp; exact ar80 (by assumption) (by assumption) (by rfl)) ?_
                              repeat km_tabs pj
                              refine push_ok (C := C.down.hold [5]) (pb := (q' ++ newPairs big small (kept.take k)).map wd) (by assumption) (by km_tabs pj_d) (hF.hold fun i hi => by rw [List.mem_singleton] at hi; exact ar13 (by assumption) (by rfl)) (by rw [List.length_map, List.length_append]; lia) ?_
                              repeat km_tabs pj
                              refine ⟨(), .cons rfl (.cons rfl (.cons rfl (.cons rfl (.cons rfl .nil)))), rfl, ?_⟩
                              rw [hns, ← List.append_assoc, List.map_append (l₁ := q' ++ newPairs big small (kept.take k))]; rfl
                        · rw [if_neg (fun z => z2 (by lia)), List.append_nil] at hns
                          repeat km_tabs pj
                          exact ⟨(), .cons rfl (.cons rfl (.cons rfl (.cons rfl (.cons rfl .nil)))), rfl, by rw [hns]⟩
                      · rw [if_neg (fun z => z1 (by lia)), List.append_nil] at hns
                        repeat km_tabs pj
                        exact ⟨(), .cons rfl (.cons rfl (.cons rfl (.cons rfl (.cons rfl .nil)))), rfl, by rw [hns]⟩
                  · intro _ v2 H' h2 zz1; refine zz1.elim fun _ zz2 => ?_; clear zz1; (first | subst zz2 | cases zz2)
                    rw [List.length_map, List.take_length]
                    exact ⟨rfl, h2, rfl⟩
                · intro f v H' zz1; refine zz1.elim fun zz2 zz3 => zz3.elim fun hv2 zz4 => ?_; clear zz3 zz1; (first | subst zz2 | cases zz2); (first | subst zz4 | cases zz4)
                  have hlp := newPairs_len (big := big) (small := small) (kept := kept)
                  refine seqK_next (EXs.sub hv2 ?_)
                  repeat km_tabs pj
                  with_reducible refine EX_expr (fun _ => by with_unfolding_all rfl) ?_
                  repeat km_tabs pj
                  refine ⟨_, gm_append (i := 5) (xs := kept.map ruleAv) (by rfl), by kernel_rfl, ?_⟩
                  repeat km_tabs pj
                  refine ⟨Nat.le_of_ble_eq_true rfl, ?_⟩
                  refine CALL_append (i := 5) (xs := kept.map ruleAv) (by rfl) (fun h => absurd (hF2 5 h) (by decide)) (by rw [List.length_map]; exact ar1 (by assumption) (by rfl)) ?_
                  rw [show (LX C.B.w.params N left ((q' ++ newPairs big small kept).map wd) [.list (kept.map ruleAv), .list ((asked ++ [(x, y)]).map askAv)]).set 5 (.list (kept.map ruleAv ++ [ruleAv (big, small)])) = LX C.B.w.params N left ((q' ++ newPairs big small kept).map wd) (J2 ⟨q' ++ newPairs big small kept, kept ++ [(big, small)], asked ++ [(x, y)]⟩) by dsimp only [J2]; rw [List.map_append (l₁ := kept)]; rfl]
                  repeat km_tabs pj
                  refine ⟨_, gm_get (by assumption), by kernel_rfl, ?_⟩
                  repeat km_tabs pj
                  refine next_ok (C := C.down) (s := ⟨q' ++ newPairs big small kept, kept ++ [(big, small)], asked ++ [(x, y)]⟩) G (by km_tabs pj_d) hF (fun i hi => Nat.lt_trans (hF2 i hi) (by decide)) ht hz (by dsimp only; rw [List.length_append]; lia) ?_
                  repeat km_tabs pj
                  exact ⟨m, ⟨q' ++ newPairs big small kept, kept ++ [(big, small)], asked ++ [(x, y)]⟩, Nat.lt_succ_self _, .cons rfl (.cons rfl (.cons rfl (.cons rfl .nil))), hr2, by dsimp only; rw [List.length_append]; lia, fun r hr => (List.mem_append.mp hr).elim (hkept r) (fun h => by rw [List.mem_singleton] at h; subst h; exact ks.2), rfl⟩
      · exact .cons (by first | rfl | exact upd_self _ _ _) (.cons rfl (.cons rfl (.cons rfl .nil)))
    · intro f v H' zz1; refine zz1.elim fun zz2 zz3 => zz3.elim fun hv zz4 => ?_; clear zz3 zz1; (first | subst zz2 | cases zz2); (first | subst zz4 | cases zz4)
      refine seqK_next (EXs.sub hv ?_)
      repeat km_tabs pj
      refine ⟨Nat.le_of_ble_eq_true rfl, ?_⟩
      repeat km_tabs pj
      refine lx_drops (J := []) (K := J2 fin) (.tup (.cons (.rlist (i := 5) (Nat.le_refl 5) rfl ?_) (.cons (.rlist (i := 6) (Nat.le_succ 5) rfl ?_) (.cons (.scp (.str _)) .nil)))) q
      · exact frz_of (scps_map fun r _ => .tup (.cons r.1.scp (.cons r.2.scp .nil)))
      · exact frz_of (scps_map fun r _ => .tup (.cons r.1.scp (.cons r.2.scp (.cons (.list (scps_map fun r _ => rowAv_scp r)) .nil))))
end
end
section
noncomputable def fset (f : Nat → Nat) (k v : Nat) : Nat → Nat := fun n => if n = k then v else f n
noncomputable def dictAv (ns : List Nat) (f : Nat → Nat) : List (Int × AV) := ns.map fun (n : Nat) => ((n : Int), .int (f n : Int))
noncomputable def nums (size : Nat) : List Nat := (allTr size).map Tr.num
theorem dict_get {f : Nat → Nat} {k : Nat} : ∀ {ns : List Nat}, k ∈ ns → (dictAv ns f).lookup (k : Int) = some (.int (f k : Int))
  | n :: ns, h => by
    unfold dictAv
    rw [List.map_cons, List.lookup_cons]
    by_cases e : k = n
    · subst e; simp
    · have : ((k : Int) == (n : Int)) = false := beq_eq_false_iff_ne.mpr (show (k : Int) ≠ (n : Int) by exact ai9 (by assumption))
      rw [this]
      exact dict_get ((List.mem_cons.mp h).resolve_left e)
theorem dict_no {f : Nat → Nat} {k : Nat} : ∀ {ns : List Nat}, k ∉ ns → (dictAv ns f).lookup (k : Int) = none
  | [], _ => rfl
  | n :: ns, h => by
    unfold dictAv
    rw [List.map_cons, List.lookup_cons]
    have e : k ≠ n := fun e => h (e ▸ List.mem_cons_self)
    have : ((k : Int) == (n : Int)) = false := beq_eq_false_iff_ne.mpr (show (k : Int) ≠ (n : Int) by exact ai9 (by assumption))
    rw [this]
    exact dict_no fun q => h (List.mem_cons_of_mem _ q)
theorem dict_put {f : Nat → Nat} {ns : List Nat} {k v : Nat} (h : k ∈ ns) : putA (dictAv ns f) (k : Int) (.int (v : Int)) = dictAv ns (fset f k v) := by
  unfold putA
  rw [if_pos (by
    unfold dictAv
    rw [List.any_map, List.any_eq_true]
    exact ⟨k, h, by simp⟩)]
  unfold dictAv
  rw [List.map_map]
  refine List.map_congr_left fun n _ => ?_
  unfold fset
  simp only [Function.comp]
  by_cases e : n = k
  · rw [if_pos (show (n : Int) = (k : Int) by rw [e]), if_pos e]
  · rw [if_neg (show ¬ (n : Int) = (k : Int) by exact ai9 (by assumption)), if_neg e]
inductive Conn (steps : List (Nat × Nat)) (bs : List Nat) : Nat → Nat → Prop
  | refl (n) : Conn steps bs n n
  | step {s k} (h : s ∈ steps) (hk : k ∈ bs) : Conn steps bs (s.1 + k) (s.2 + k)
  | symm {a b} (h : Conn steps bs a b) : Conn steps bs b a
  | trans {a b c} (h : Conn steps bs a b) (h' : Conn steps bs b c) : Conn steps bs a c
noncomputable def Closed (steps : List (Nat × Nat)) (bs : List Nat) (f : Nat → Nat) : Prop := ∀ s ∈ steps, ∀ k ∈ bs, f (s.1 + k) = f (s.2 + k)
structure LInv (steps : List (Nat × Nat)) (bs ns : List Nat) (f : Nat → Nat) : Prop where
  conn : ∀ n, Conn steps bs n (f n)
  le : ∀ n, f n ≤ n
  out : ∀ n, n ∉ ns → f n = n
structure IsLeast (steps : List (Nat × Nat)) (bs ns : List Nat) (f : Nat → Nat) : Prop extends LInv steps bs ns f where
  closed : Closed steps bs f
theorem Closed.conn {steps : List (Nat × Nat)} {bs : List Nat} {f : Nat → Nat} (h : Closed steps bs f) {a b : Nat} (c : Conn steps bs a b) : f a = f b := by
  induction c with
  | refl => rfl
  | step hs hk => exact h _ hs _ hk
  | symm _ ih => exact ih.symm
  | trans _ _ ih ih' => exact ih.trans ih'
theorem IsLeast.uniq {steps : List (Nat × Nat)} {bs ns : List Nat} {f g : Nat → Nat} (hf : IsLeast steps bs ns f) (hg : IsLeast steps bs ns g) : f = g := funext fun n => by
  have h1 : f n ≤ g n := by rw [hf.closed.conn (hg.conn n)]; exact hf.le _
  have h2 : g n ≤ f n := by rw [hg.closed.conn (hf.conn n)]; exact hg.le _
  exact as4 (by assumption) (by assumption)
noncomputable def fsum (ns : List Nat) (f : Nat → Nat) : Nat := (ns.map f).sum
theorem fsum_le {f g : Nat → Nat} (h : ∀ n, g n ≤ f n) : ∀ ns : List Nat, fsum ns g ≤ fsum ns f
  | [] => Nat.le_refl _
  | n :: ns => by have := fsum_le h ns; have := h n; unfold fsum at *; simp; exact as24 (by assumption) (by assumption)
theorem fsum_lt {f g : Nat → Nat} (h : ∀ n, g n ≤ f n) {m : Nat} (hm : g m < f m) : ∀ {ns : List Nat}, m ∈ ns → fsum ns g < fsum ns f
  | n :: ns, q => by
    have h1 := fsum_le h ns
    have h2 := h n
    rcases List.mem_cons.mp q with e | e
    · subst e; unfold fsum at *; simp; exact as25 (by assumption) (by assumption)
    · have := fsum_lt h hm e; unfold fsum at *; simp; exact as26 (by assumption) (by assumption)
structure LMid (steps : List (Nat × Nat)) (bs ns : List Nat) (f0 : Nat → Nat) (f : Nat → Nat) (more : Bool) : Prop extends LInv steps bs ns f where
  sum : fsum ns f ≤ fsum ns f0
  lt : more = true → fsum ns f < fsum ns f0
theorem LMid.relax {steps : List (Nat × Nat)} {bs ns : List Nat} {f0 f : Nat → Nat} {more : Bool} (M : LMid steps bs ns f0 f more) {s : Nat × Nat} {k : Nat} (hs : s ∈ steps) (hk : k ∈ bs) (h1 : s.1 + k ∈ ns) (h2 : s.2 + k ∈ ns) (hne : f (s.1 + k) ≠ f (s.2 + k)) :
    LMid steps bs ns f0 (fset (fset f (s.1 + k) (min (f (s.1 + k)) (f (s.2 + k)))) (s.2 + k) (min (f (s.1 + k)) (f (s.2 + k)))) true := by
  have hle : ∀ n, fset (fset f (s.1 + k) (min (f (s.1 + k)) (f (s.2 + k)))) (s.2 + k) (min (f (s.1 + k)) (f (s.2 + k))) n ≤ f n := fun n => by
    unfold fset
    split
    · subst n; lia
    · split
      · subst n; lia
      · exact Nat.le_refl _
  have hlow : ∀ n, n = s.1 + k ∨ n = s.2 + k → Conn steps bs n (min (f (s.1 + k)) (f (s.2 + k))) := fun n hn => by
    have c : Conn steps bs (s.1 + k) (s.2 + k) := .step hs hk
    have : min (f (s.1 + k)) (f (s.2 + k)) = f (s.1 + k) ∨ min (f (s.1 + k)) (f (s.2 + k)) = f (s.2 + k) := by lia
    rcases this with e | e <;> rw [e] <;> rcases hn with hn | hn <;> subst hn
    · exact M.conn _
    · exact c.symm.trans (M.conn _)
    · exact c.trans (M.conn _)
    · exact M.conn _
  have hlt : fsum ns (fset (fset f (s.1 + k) (min (f (s.1 + k)) (f (s.2 + k)))) (s.2 + k) (min (f (s.1 + k)) (f (s.2 + k)))) < fsum ns f := by
    rcases Nat.lt_or_ge (f (s.1 + k)) (f (s.2 + k)) with q | q
    · refine fsum_lt hle (m := s.2 + k) ?_ h2
      unfold fset; rw [if_pos rfl]; lia
    · refine fsum_lt hle (m := s.1 + k) ?_ h1
      unfold fset
      split
      · rename_i e; rw [e] at q hne; lia
      · rw [if_pos rfl]; lia
  refine ⟨⟨fun n => ?_, fun n => Nat.le_trans (hle n) (M.le n), fun n hn => ?_⟩, by have := M.sum; lia, fun _ => by have := M.sum; exact ar43 (by assumption) (by assumption)⟩
  · unfold fset
    split
    · exact hlow _ (.inr (by assumption))
    · split
      · exact hlow _ (.inl (by assumption))
      · exact M.conn n
  · unfold fset
    rw [if_neg (fun e : n = s.2 + k => hn (e ▸ h2)), if_neg (fun e : n = s.1 + k => hn (e ▸ h1))]; exact M.out n hn
theorem LInv.id {steps : List (Nat × Nat)} {bs ns : List Nat} : LInv steps bs ns (fun n => n) := ⟨fun n => .refl n, fun n => Nat.le_refl _, fun _ _ => rfl⟩
theorem merge_nums {size : Nat} (h1 : 2 ≤ size) (h2 : size ≤ 4) : mergeA [] (((nums size).map fun (n : Nat) => (n : Int)).zip ((nums size).map fun (n : Nat) => AV.int (n : Int))) = dictAv (nums size) (fun n => n) := by
  have : size = 2 ∨ size = 3 ∨ size = 4 := by exact ar27 (by assumption) (by assumption)
  rcases this with rfl | rfl | rfl <;> rfl
theorem allTr_len {n : Nat} (h : n ≤ 4) : (allTr n).length ≤ 15 := by
  have : n = 0 ∨ n = 1 ∨ n = 2 ∨ n = 3 ∨ n = 4 := by exact ar26 (by assumption)
  rcases this with rfl | rfl | rfl | rfl | rfl <;> decide
noncomputable def lessP (t : Tr) : List (List Nat) := [if 0 < t.a then [t.num - 10101] else [], if 0 < t.b then [t.num - 10203] else [], if 0 < t.c then [t.num - 30403] else []]
noncomputable def condT (bef f : Nat → Nat) (t : Tr) : Bool := decide (f t.num < t.num) && ((lessP t).flatten.filter fun k => decide (bef k < k)).isEmpty
inductive TK (steps : List (Nat × Nat)) : Nat → (Nat → Nat) → List Tr → Prop
  | zero : TK steps 0 (fun n => n) []
  | succ {i bef l f} (h : TK steps i bef l) (hf : IsLeast steps (nums i) (nums (i + 2)) f) : TK steps (i + 1) f (l ++ (allTr (i + 2)).filter (condT bef f))
noncomputable def befAv (i : Nat) (bef : Nat → Nat) : List (Int × AV) := match i with | 0 => [] | i + 1 => dictAv (nums (i + 2)) bef
theorem bef_get {steps : List (Nat × Nat)} {i : Nat} {bef : Nat → Nat} {l : List Tr} (h : TK steps i bef l) (k : Nat) : ((befAv i bef).lookup (k : Int)).getD (.int (k : Int)) = .int (bef k : Int) := by
  cases h with
  | zero => rfl
  | succ h hf =>
    unfold befAv
    rename_i i _ _
    by_cases hk : k ∈ nums (i + 2)
    · rw [dict_get hk]; rfl
    · rw [dict_no hk, hf.out k hk]; rfl
theorem TK.len {steps : List (Nat × Nat)} {i : Nat} {bef : Nat → Nat} {l : List Tr} (h : TK steps i bef l) : i ≤ 3 → l.length ≤ i * 15 := by
  induction h with
  | zero => simp
  | succ h hf ih =>
    intro hi
    rename_i i bef l f
    have h1 := ih (ar4 (by assumption) (by rfl))
    have h2 := List.length_filter_le (condT bef f) (allTr (i + 2))
    have h3 := allTr_len (n := i + 2) (ar3 (by assumption) (by rfl))
    rw [List.length_append]; lia
theorem lessP_num (t : Tr) : (0 < t.a → 10101 ≤ t.num) ∧ (0 < t.b → 10203 ≤ t.num) ∧ (0 < t.c → 30403 ≤ t.num) := by unfold Tr.num; lia
theorem lessP_len (t : Tr) (k : Nat) : (((lessP t).take k).flatten).length ≤ 3 := by
  have h : (lessP t).flatten.length ≤ 3 := by unfold lessP; simp; split <;> split <;> split <;> simp
  have : ((lessP t).take k).flatten.length ≤ (lessP t).flatten.length := by
    conv => rhs; rw [← List.take_append_drop k (lessP t)]
    rw [List.flatten_append, List.length_append]; exact Nat.le_add_right _ _
  exact ar44 (by assumption) (by assumption)
end
section
theorem EVI_all {C : Cx} {sc : Scope} {vars : Vars} {H : List AO} {target : Expr} {p pos : Pos} {es : List Expr} {Q : List Nat → List AV → List AO → Prop} (h : EV C sc vars H (.Call (.Name (Str.ofString "_law_all") p) es [] pos) fun v H1 => ITV C H1 target v Q) : EVI C sc vars H target (.Call (.Name (Str.ofString "_law_all") p) es [] pos) Q := EVI_val h
section
variable {C : Cx} {sc : Scope} {vars : Vars} {H : List AO}
noncomputable abbrev stepAv (s : Nat × Nat) : AV := .list [.int (s.1 : Int), .int (s.2 : Int)]
noncomputable abbrev intsAv (ns : List Nat) : AV := .list (ns.map fun (n : Nat) => AV.int (n : Int))
theorem least_ok (G : GKB C.B) (hd : 1 < C.d) (hF : FOk C H.length) {steps : List (Nat × Nat)} {size : Nat} (z1 : 2 ≤ size) (z2 : size ≤ 4) (hm : ∀ s ∈ steps, ∀ k ∈ nums (size - 2), s.1 + k ∈ nums size ∧ s.2 + k ∈ nums size)
    {Q : AV → List AO → Prop} (q : ∀ f, IsLeast steps (nums (size - 2)) (nums size) f → Q (.dictI (dictAv (nums size) f)) H) : CALL C H (.ref 220) [.list (steps.map stepAv), .int (size : Int)] Q := by
  refine CALL_pure G.ok (ar7 (by assumption) (by rfl)) (names := ["steps", "size"]) (by refine fnOk_of (by assumption) (by rfl) rfl (by kernel_rfl) rfl rfl rfl ?_ (by kernel_rfl) (by decide) (by kernel_rfl) rfl rfl rfl; exact bind2 fun _ _ => rfl) rfl ?_
  refine EXs_seq ?_
  refine EX_comp (fun _ hE => swaps_yes hE (by with_unfolding_all rfl) (by with_unfolding_all rfl) (by kernel_rfl)) (by kernel_rfl) (by kernel_rfl) rfl (fun _ _ => by with_unfolding_all rfl) (tgs (by kernel_rfl)) ?_
  repeat km_tabs pj
  with_reducible refine EVI_all ?_
  repeat km_tabs pj
  refine all_ok (C := C.down) (by assumption) (by km_tabs pj_d) (ar1 (by assumption) (by rfl)) ?_
  refine ITV_list ?_
  refine ⟨(nums size).map fun (n : Nat) => AV.int (n : Int), by rw [List.length_map, List.length_map]; unfold nums; rw [List.length_map], by rw [List.length_map]; unfold nums; rw [List.length_map]; have := allTr_len z2; exact ar1 (by assumption) (by rfl), fun k v hk => ?_, ?_⟩
  · rw [List.getElem?_map] at hk
    obtain ⟨t, ht, rfl⟩ := Option.map_eq_some_iff.mp hk
    repeat km_tabs pj
    refine number_ok (C := C.down.hold []) (by assumption) (by km_tabs pj_d) ?_
    exact ⟨rfl, by unfold nums; rw [List.getElem?_map, List.getElem?_map, ht]; rfl⟩
  · repeat km_tabs pj
    refine EX_swap ["least", "beside"] (fun _ => by with_unfolding_all rfl) (fun _ hE => (swapsE hE.scope).trans (by kernel_rfl)) (by kernel_rfl) ?_
    refine EV_tuple (by kernel_rfl) ?_
    refine EVs_cons ?_
    refine EV_dictzip G.ok rfl (fun _ => by with_unfolding_all rfl) (fun _ => by with_unfolding_all rfl) ?_
    repeat km_tabs pj
    refine ⟨(nums size).map fun (n : Nat) => (n : Int), _, ?_, .imm, by rw [List.length_map, List.length_map], by rw [List.length_map]; unfold nums; rw [List.length_map]; have := allTr_len z2; exact ar1 (by assumption) (by rfl), ?_⟩
    · rw [List.map_map]; exact .imm
    rw [merge_nums z1 z2]
    repeat km_tabs pj
    with_reducible refine EVI_all ?_
    repeat km_tabs pj
    rw [show (size : Int) - 2 = ((size - 2 : Nat) : Int) by lia]
    refine all_ok (C := C.down) (by assumption) (by km_tabs pj_d) (by exact as29 (by assumption) (by rfl)) ?_
    refine ITV_list ?_
    refine ⟨(nums (size - 2)).map fun (n : Nat) => AV.int (n : Int), by rw [List.length_map, List.length_map]; unfold nums; rw [List.length_map], by rw [List.length_map]; unfold nums; rw [List.length_map]; have := allTr_len (n := size - 2) (by exact as29 (by assumption) (by rfl)); exact ar1 (by assumption) (by rfl), fun k v hk => ?_, ?_⟩
    · rw [List.getElem?_map] at hk
      obtain ⟨t, ht, rfl⟩ := Option.map_eq_some_iff.mp hk
      repeat km_tabs pj
      refine number_ok (C := C.down.hold []) (by assumption) (by km_tabs pj_d) ?_
      exact ⟨rfl, by unfold nums; rw [List.getElem?_map, List.getElem?_map, ht]; rfl⟩
    repeat km_tabs pj
    refine ⟨Nat.le_of_ble_eq_true rfl, ?_⟩
    repeat km_tabs pj
    with_reducible refine EV_bool ?_
    repeat km_tabs pj
    have hb : (nums (size - 2)).length ≤ 15 := by unfold nums; rw [List.length_map]; exact allTr_len (by exact as29 (by assumption) (by rfl))
    have hl : (dictAv (nums size) fun n => n).length ≤ 15 := by unfold dictAv nums; rw [List.length_map, List.length_map]; exact allTr_len z2
    generalize nums size = ns at hm q hl ⊢
    generalize nums (size - 2) = bs at hm q hb ⊢
    refine EX_whileV (fun (a : (Nat → Nat) × Bool) => [("steps", .list (steps.map stepAv)), ("least", .ref H.length), ("beside", intsAv bs), ("more", .bool a.2)])
      (fun n a H' => H' = H ++ [.dictI (dictAv ns a.1)] ∧ LInv steps bs ns a.1 ∧ (a.2 = false → Closed steps bs a.1) ∧ n = 2 * fsum ns a.1 + (if a.2 then 1 else 0)) ?_ (2 * fsum ns (fun n => n) + 1) (fun n => n, true)
      (.cons rfl (.cons rfl (.cons rfl (.cons rfl .nil)))) ⟨rfl, LInv.id, fun h => (by cases h), rfl⟩
    rintro n ⟨f, more⟩ H' ⟨rfl, hinv, hcl, rfl⟩
    dsimp only at hinv hcl ⊢
    cases more with
    | false =>
      repeat km_tabs pj
      intro v2 hs
      refine seqK_next (EXs.sub hs ?_)
      repeat km_tabs pj
      exact ⟨_, .rdictI (Nat.le_refl _) get_at rfl (frz_of (by unfold dictAv; rw [List.map_map]; exact scps_map fun n _ => .int _)), q f ⟨hinv, hcl rfl⟩⟩
    | true =>
      repeat km_tabs pj
      with_reducible refine EV_bool ?_
      repeat km_tabs pj
      refine EX.mono (Q := fun fl v H' => fl = .next ∧ ∃ f' m', Sub [("steps", .list (steps.map stepAv)), ("least", .ref H.length), ("beside", intsAv bs), ("more", .bool m')] v ∧ H' = H ++ [.dictI (dictAv ns f')] ∧ LMid steps bs ns f f' m' ∧ (m' = false → Closed steps bs f')) ?_ ?_
      · refine EX_forV (fun (a : (Nat → Nat) × Bool) => [("steps", .list (steps.map stepAv)), ("least", .ref H.length), ("beside", intsAv bs), ("more", .bool a.2)])
          (fun xs i a H' => xs = steps.map stepAv ∧ H' = H ++ [.dictI (dictAv ns a.1)] ∧ LMid steps bs ns f a.1 a.2 ∧ (a.2 = false → ∀ j s, j < i → steps[j]? = some s → ∀ k ∈ bs, a.1 (s.1 + k) = a.1 (s.2 + k))) (fun _ _ => by with_unfolding_all rfl) ?_
        repeat km_tabs pj
        with_reducible refine EVI_val ?_
        repeat km_tabs pj
        refine ITV_list ?_
        refine ⟨⟨(f, false), .cons rfl (.cons rfl (.cons rfl (.cons rfl .nil))), rfl, rfl, ⟨hinv, Nat.le_refl _, fun h => (by cases h)⟩, fun _ j s h => (by lia)⟩, ?_, ?_⟩
        · rintro i x ⟨f1, m1⟩ H' hx ⟨-, rfl, M, hc⟩
          dsimp only at M hc ⊢
          rw [List.getElem?_map] at hx
          obtain ⟨s, hs1, rfl⟩ := Option.map_eq_some_iff.mp hx
          have hs2 := List.mem_of_getElem? hs1
          repeat km_tabs pj
          with_reducible refine AS_tuple (by kernel_rfl) ?_
          repeat km_tabs pj
          with_reducible refine UNP_list (by with_unfolding_all rfl) ?_
          repeat km_tabs pj
          with_reducible refine ASs_nil ?_
          repeat km_tabs pj
          refine EX_forV (fun (a : (Nat → Nat) × Bool) => [("steps", .list (steps.map stepAv)), ("least", .ref H.length), ("beside", intsAv bs), ("more", .bool a.2), ("p", .int (s.1 : Int)), ("q", .int (s.2 : Int))])
            (fun xs j a H' => xs = bs.map (fun (n : Nat) => AV.int (n : Int)) ∧ H' = H ++ [.dictI (dictAv ns a.1)] ∧ LMid steps bs ns f a.1 a.2 ∧ (a.2 = false → a.1 = f1 ∧ m1 = false ∧ ∀ j' k, j' < j → bs[j']? = some k → a.1 (s.1 + k) = a.1 (s.2 + k))) (fun _ _ => by with_unfolding_all rfl) ?_
          repeat km_tabs pj
          with_reducible refine EVI_val ?_
          repeat km_tabs pj
          refine ITV_list ?_
          refine ⟨⟨(f1, m1), .cons rfl (.cons rfl (.cons rfl (.cons rfl (.cons rfl (.cons rfl .nil))))), rfl, rfl, M, fun h => ⟨rfl, h, fun _ _ h => (by lia)⟩⟩, ?_, ?_⟩
          · rintro j x ⟨f2, m2⟩ H' hx ⟨-, rfl, M2, hc2⟩
            dsimp only at M2 hc2 ⊢
            rw [List.getElem?_map] at hx
            obtain ⟨k, hk1, rfl⟩ := Option.map_eq_some_iff.mp hx
            have hk2 := List.mem_of_getElem? hk1
            obtain ⟨h1, h2⟩ := hm s hs2 k hk2
            have e1 : (s.1 : Int) + (k : Int) = ((s.1 + k : Nat) : Int) := by push_cast; rfl
            have e2 : (s.2 : Int) + (k : Int) = ((s.2 + k : Nat) : Int) := by push_cast; rfl
            repeat km_tabs pj
            rw [e1]
            refine SUB_rdictI get_at (dict_get h1) ?_
            repeat km_tabs pj
            rw [e2]
            refine SUB_rdictI get_at (dict_get h2) ?_
            repeat km_tabs pj
            with_reducible refine OP_nei ?_
            repeat km_tabs pj
            refine if_bool (fun z => ?_) (fun z => ?_)
            · have hne : f2 (s.1 + k) ≠ f2 (s.2 + k) := fun y => by rw [y] at z; simp at z
              have M3 := M2.relax hs2 hk2 h1 h2 hne
              repeat km_tabs pj
              rw [e1]
              refine SUB_rdictI get_at (dict_get h1) ?_
              repeat km_tabs pj
              rw [e2]
              refine SUB_rdictI get_at (dict_get h2) ?_
              repeat km_tabs pj
              refine CALL_min2 ?_
              rw [show min ((f2 (s.1 + k) : Nat) : Int) ((f2 (s.2 + k) : Nat) : Int) = ((min (f2 (s.1 + k)) (f2 (s.2 + k)) : Nat) : Int) by lia]
              generalize min (f2 (s.1 + k)) (f2 (s.2 + k)) = low at M3 ⊢
              repeat km_tabs pj
              refine EX_assign_to (fun _ => by with_unfolding_all rfl) (fun _ hE => (swapsE hE).trans (by kernel_rfl)) (fun _ => by with_unfolding_all rfl) ?_
              repeat km_tabs pj
              with_reducible refine EV_bool ?_
              repeat km_tabs pj
              refine ⟨Nat.le_of_ble_eq_true rfl, ?_⟩
              repeat km_tabs pj
              with_reducible refine AS_tuple (by kernel_rfl) ?_
              repeat km_tabs pj
              with_reducible refine AS_sub ?_
              repeat km_tabs pj
              rw [e1]
              refine SETI_dictI get_at (hF.nin (Nat.le_refl _)) (by unfold dictAv at hl ⊢; rw [List.length_map] at hl ⊢; exact ar1 (by assumption) (by rfl)) ?_
              rw [set_at, dict_put h1]
              repeat km_tabs pj
              with_reducible refine AS_sub ?_
              repeat km_tabs pj
              rw [e2]
              refine SETI_dictI get_at (hF.nin (Nat.le_refl _)) (by unfold dictAv at hl ⊢; rw [List.length_map] at hl ⊢; exact ar1 (by assumption) (by rfl)) ?_
              rw [set_at, dict_put h2]
              repeat km_tabs pj
              with_reducible refine ASs_nil ?_
              repeat km_tabs pj
              exact ⟨(_, true), .cons rfl (.cons rfl (.cons rfl (.cons rfl (.cons rfl (.cons rfl .nil))))), rfl, rfl, M3, fun h => (by cases h)⟩
            · have heq : f2 (s.1 + k) = f2 (s.2 + k) := by
                by_cases y : f2 (s.1 + k) = f2 (s.2 + k)
                · exact y
                · have : ((f2 (s.1 + k) : Nat) : Int) ≠ ((f2 (s.2 + k) : Nat) : Int) := by exact ai9 (by assumption)
                  simp [this] at z
              repeat km_tabs pj
              refine ⟨(f2, m2), .cons rfl (.cons rfl (.cons rfl (.cons rfl (.cons rfl (.cons rfl .nil))))), rfl, rfl, M2, fun h => ⟨(hc2 h).1, (hc2 h).2.1, fun j' k' hj' hk' => ?_⟩⟩
              rcases Nat.lt_succ_iff_lt_or_eq.mp hj' with y | y
              · exact (hc2 h).2.2 j' k' y hk'
              · subst y; rw [hk1] at hk'; cases hk'; exact heq
          · rintro ⟨f2, m2⟩ v2 H' hs3 ⟨-, rfl, M2, hc2⟩
            refine seqK_next (EXs_nil ⟨(f2, m2), .cons (hs3 _ _ rfl) (.cons (hs3 _ _ rfl) (.cons (hs3 _ _ rfl) (.cons (hs3 _ _ rfl) .nil))), rfl, rfl, M2, fun h j s' hj hs' k hk => ?_⟩)
            obtain ⟨y1, y2, y3⟩ := hc2 h
            rcases Nat.lt_succ_iff_lt_or_eq.mp hj with y | y
            · dsimp only at y1; subst y1; exact hc y2 j s' y hs' k hk
            · subst y; rw [hs1] at hs'; cases hs'
              obtain ⟨j', hj', rfl⟩ := List.getElem_of_mem hk
              exact y3 j' _ (by rw [List.length_map]; exact hj') (List.getElem?_eq_getElem hj')
        · rintro ⟨f1, m1⟩ v2 H' hs ⟨-, rfl, M, hc⟩
          refine ⟨rfl, f1, m1, hs, rfl, M, fun h s hs k hk => ?_⟩
          refine (List.getElem_of_mem hs).elim fun j zz1 => zz1.elim fun hj zz2 => ?_; clear zz1; (first | subst zz2 | cases zz2)
          exact hc h j _ (by rw [List.length_map]; exact hj) (List.getElem?_eq_getElem hj) k hk
      · intro fl v H' zz1; refine zz1.elim fun zz2 zz3 => zz3.elim fun f' zz4 => zz4.elim fun m' zz5 => zz5.elim fun hs zz6 => zz6.elim fun zz7 zz8 => zz8.elim fun M hc => ?_; clear zz8 zz6 zz5 zz4 zz3 zz1; (first | subst zz2 | cases zz2); (first | subst zz7 | cases zz7)
        refine seqK_next (EXs_nil ⟨_, (f', m'), ?_, hs, rfl, M.toLInv, hc, rfl⟩)
        have h1 := M.sum
        cases m' with
        | true => have := M.lt rfl; simp; assumption
        | false => simp; lia
end
end
section
section
variable {C : Cx} {sc : Scope} {vars : Vars} {H : List AO}
theorem taken_ok (G : GKB C.B) (hd : 2 < C.d) (hF : FOk C H.length) {steps : List (Nat × Nat)} (hm : ∀ i, i < 3 → ∀ s ∈ steps, ∀ k ∈ nums i, s.1 + k ∈ nums (i + 2) ∧ s.2 + k ∈ nums (i + 2))
    {Q : AV → List AO → Prop} (q : ∀ f l, TK steps 3 f l → Q (.tup [.list (l.map Tr.av), .dictI (dictAv (nums 4) f)]) H) : CALL C H (.ref 225) [.list (steps.map stepAv)] Q := by
  refine CALL_pure G.ok (ar7 (by assumption) (by rfl)) (names := ["steps"]) (by refine fnOk_of (by assumption) (by rfl) rfl (by kernel_rfl) rfl rfl rfl ?_ (by kernel_rfl) (by decide) (by kernel_rfl) rfl rfl rfl; exact bind1 fun _ => rfl) rfl ?_
  repeat km_tabs pj
  refine EX_assign_to (fun _ => by with_unfolding_all rfl) (fun _ hE => (swapsE hE).trans (by kernel_rfl)) (fun _ => by with_unfolding_all rfl) ?_
  repeat km_tabs pj
  refine EV_listM (by kernel_rfl) ?_
  repeat km_tabs pj
  refine ⟨Nat.le_of_ble_eq_true rfl, ?_⟩
  repeat km_tabs pj
  refine EV_dict0f G.ok ?_
  repeat km_tabs pj
  refine ⟨Nat.le_of_ble_eq_true rfl, ?_⟩
  repeat km_tabs pj
  with_reducible refine AS_tuple (by kernel_rfl) ?_
  repeat km_tabs pj
  with_reducible refine ASs_nil ?_
  repeat km_tabs pj
  refine EX.mono (Q := fun fl v H' => fl = .next ∧ ∃ f l, TK steps 3 f l ∧ Sub [("taken", .ref H.length), ("before", .dictI (dictAv (nums 4) f))] v ∧ H' = H ++ [.list (l.map Tr.av)]) ?_ ?_
  · refine EX_forV (fun (a : Nat × (Nat → Nat) × List Tr) => [("steps", .list (steps.map stepAv)), ("taken", .ref H.length), ("before", .dictI (befAv a.1 a.2.1))])
      (fun xs i a H' => xs = [.int 2, .int 3, .int 4] ∧ a.1 = i ∧ H' = H ++ [.list (a.2.2.map Tr.av)] ∧ TK steps i a.2.1 a.2.2) (fun _ _ => by with_unfolding_all rfl) ?_
    repeat km_tabs pj
    with_reducible refine EVI_val ?_
    repeat km_tabs pj
    refine EV_list (by kernel_rfl) ?_
    repeat km_tabs pj
    refine ⟨Nat.le_of_ble_eq_true rfl, ?_⟩
    refine ITV_list ?_
    refine ⟨⟨(0, (fun n => n), []), .cons rfl (.cons rfl (.cons rfl .nil)), rfl, rfl, rfl, .zero⟩, ?_, ?_⟩
    · rintro i x ⟨i', bef, l⟩ H' hx ⟨-, hi, rfl, hT⟩
      dsimp only at hi hT ⊢
      subst hi
      have hi3 : i' < 3 := lt_of_get hx
      have hx2 : x = .int ((i' + 2 : Nat) : Int) := by
        match i', hx with
        | 0, hx => cases hx; rfl
        | 1, hx => cases hx; rfl
        | 2, hx => cases hx; rfl
      subst hx2
      clear hx
      have hl := hT.len (ar4 (by assumption) (by rfl))
      repeat km_tabs pj
      refine least_ok (C := C.down.hold []) (steps := steps) (size := i' + 2) (by assumption) (by km_tabs pj_d) (fun j hj => by have := hF j hj; rw [List.length_append]; exact as1 (by assumption)) (by exact Nat.le_of_ble_eq_true rfl) (ar3 (by assumption) (by rfl)) (hm i' hi3) (fun f hf => ?_)
      have hf : IsLeast steps (nums i') (nums (i' + 2)) f := hf
      repeat km_tabs pj
      refine EX_forV (fun (_ : Unit) => [("steps", .list (steps.map stepAv)), ("taken", .ref H.length), ("before", .dictI (befAv i' bef)), ("least", .dictI (dictAv (nums (i' + 2)) f))])
        (fun xs j _ H' => xs = (allTr (i' + 2)).map Tr.av ∧ H' = H ++ [.list ((l ++ ((allTr (i' + 2)).take j).filter (condT bef f)).map Tr.av)]) (fun _ _ => by with_unfolding_all rfl) ?_
      repeat km_tabs pj
      with_reducible refine EVI_all ?_
      repeat km_tabs pj
      refine all_ok (C := C.down.hold []) (by assumption) (by km_tabs pj_d) (ar3 (by assumption) (by rfl)) ?_
      refine ITV_list ?_
      refine ⟨⟨(), .cons rfl (.cons rfl (.cons rfl (.cons rfl .nil))), rfl, by simp⟩, ?_, ?_⟩
      · rintro j x _ H' hx ⟨-, rfl⟩
        rw [List.getElem?_map] at hx
        refine (Option.map_eq_some_iff.mp hx).elim fun t zz1 => zz1.elim fun ht zz2 => ?_; clear zz1; (first | subst zz2 | cases zz2)
        refine AS_name (by kernel_rfl) ?_
        refine (lessP_num t).elim fun n1 zz1 => zz1.elim fun n2 n3 => ?_; clear zz1
        refine EXs_seq ?_
        refine EX_assign (fun _ => by with_unfolding_all rfl) (by kernel_rfl) ?_
        repeat km_tabs pj
        refine number_ok (C := (C.down.hold []).hold []) (by assumption) (by km_tabs pj_d) ?_
        refine seqK_next (EXs_seq ?_)
        refine EX_comp (fun _ hE => swaps_yes hE (by with_unfolding_all rfl) (by with_unfolding_all rfl) (by kernel_rfl)) (by kernel_rfl) (by kernel_rfl) rfl (fun _ _ => by with_unfolding_all rfl) (tgs (by kernel_rfl)) ?_
        refine CMP_pure (by kernel_rfl) ?_
        repeat km_tabs pj
        with_reducible refine EVI_range1 (GW.ok (by assumption)) (by kernel_rfl) (fun _ => by with_unfolding_all rfl) ?_
        repeat km_tabs pj
        refine ⟨by decide, fun k => ((lessP t).take k).flatten.map fun (n : Nat) => AV.int (n : Int), rfl, fun k _ => by rw [List.length_map]; have := lessP_len t k; exact ar1 (by assumption) (by rfl), fun k v hk => ?_, ?_⟩
        · have : k < 3 := lt_of_get hk
          have : k = 0 ∨ k = 1 ∨ k = 2 := by exact ar25 (by assumption)
          rcases this with e | e | e <;> subst e <;> cases hk
          · repeat km_tabs pj
            with_reducible refine TST_one ?_
            repeat km_tabs pj
            with_reducible refine OP_gt ?_
            repeat km_tabs pj
            refine if_dec (fun z => ?_) (fun z => ?_)
            · have z' : 0 < t.a := by exact ai2 (by assumption)
              repeat km_tabs pj
              refine EV_list (by kernel_rfl) ?_
              repeat km_tabs pj
              refine ⟨Nat.le_of_ble_eq_true rfl, ?_⟩
              repeat km_tabs pj
              rw [show (t.num : Int) - 10101 = ((t.num - 10101 : Nat) : Int) by lia]
              simp [lessP, z']
            · have z' : ¬ 0 < t.a := by lia
              simp [lessP, z']
          · repeat km_tabs pj
            with_reducible refine TST_one ?_
            repeat km_tabs pj
            with_reducible refine OP_gt ?_
            repeat km_tabs pj
            refine if_dec (fun z => ?_) (fun z => ?_)
            · have z' : 0 < t.b := by exact ai2 (by assumption)
              repeat km_tabs pj
              refine EV_list (by kernel_rfl) ?_
              repeat km_tabs pj
              refine ⟨Nat.le_of_ble_eq_true rfl, ?_⟩
              repeat km_tabs pj
              rw [show (t.num : Int) - 10203 = ((t.num - 10203 : Nat) : Int) by lia]
              simp [lessP, z']
            · have z' : ¬ 0 < t.b := by lia
              simp [lessP, z']
          · repeat km_tabs pj
            with_reducible refine TST_one ?_
            repeat km_tabs pj
            with_reducible refine OP_gt ?_
            repeat km_tabs pj
            refine if_dec (fun z => ?_) (fun z => ?_)
            · have z' : 0 < t.c := by exact ai2 (by assumption)
              repeat km_tabs pj
              refine EV_list (by kernel_rfl) ?_
              repeat km_tabs pj
              refine ⟨Nat.le_of_ble_eq_true rfl, ?_⟩
              repeat km_tabs pj
              rw [show (t.num : Int) - 30403 = ((t.num - 30403 : Nat) : Int) by lia]
              simp [lessP, z']
            · have z' : ¬ 0 < t.c := by lia
              simp [lessP, z']
        · dsimp only
          rw [rng_len, show (lessP t).take (Int.toNat 3) = lessP t from rfl]
          have hls := lessP_len t 3
          rw [show (lessP t).take 3 = lessP t from rfl] at hls
          have htm : t.num ∈ nums (i' + 2) := List.mem_map_of_mem (List.mem_of_getElem? ht)
          have hcond : condT bef f t = (decide (f t.num < t.num) && ((lessP t).flatten.filter fun k => decide (bef k < k)).isEmpty) := rfl
          generalize (lessP t).flatten = ls at hls hcond ⊢
          repeat km_tabs pj
          with_reducible refine ETs_cons ?_
          repeat km_tabs pj
          refine SUB_dictI (dict_get htm) ?_
          repeat km_tabs pj
          with_reducible refine OP_lt ?_
          repeat km_tabs pj
          have hno : condT bef f t = false → (l ++ ((allTr (i' + 2)).take (j + 1)).filter (condT bef f)) = l ++ ((allTr (i' + 2)).take j).filter (condT bef f) := fun h => by
            rw [take_succ_get ht, List.filter_append, List.filter_cons, h]; simp
          refine if_dec (fun z => ?_) (fun z => ?_)
          · have z' : f t.num < t.num := by exact ai2 (by assumption)
            repeat km_tabs pj
            with_reducible refine ETs_cons ?_
            repeat km_tabs pj
            with_reducible refine CMP_pure (by kernel_rfl) ?_
            repeat km_tabs pj
            with_reducible refine EVI_val ?_
            repeat km_tabs pj
            refine ITV_list ?_
            refine ⟨fun k => ((ls.take k).filter fun k => decide (bef k < k)).map fun (n : Nat) => AV.int (n : Int), rfl, fun k _ => by rw [List.length_map]; have := List.length_filter_le (fun k => decide (bef k < k)) (ls.take k); rw [List.length_take] at this; exact Nat.le_trans this (Nat.le_trans (Nat.min_le_right _ _) (ar1 (by assumption) (by rfl))), fun k v hk => ?_, ?_⟩
            · rw [List.getElem?_map] at hk
              refine (Option.map_eq_some_iff.mp hk).elim fun m zz1 => zz1.elim fun hm1 zz2 => ?_; clear zz1; (first | subst zz2 | cases zz2)
              repeat km_tabs pj
              with_reducible refine TST_one ?_
              repeat km_tabs pj
              refine ⟨_, GETM_b .dictI PySem.F.plainAttrs_dict PySem.F.slot_dict_get PySem.F.type_dict_get, by kernel_rfl, ?_⟩
              repeat km_tabs pj
              refine CALL_getI .imm ?_
              rw [bef_get hT]
              repeat km_tabs pj
              with_reducible refine OP_lt ?_
              repeat km_tabs pj
              refine if_dec (fun y => ?_) (fun y => ?_)
              · repeat km_tabs pj
                dsimp only
                rw [take_succ_get hm1, List.filter_append, List.map_append, List.filter_cons, decide_eq_true (show bef m < m by exact ai2 (by assumption))]; rfl
              · dsimp only
                rw [take_succ_get hm1, List.filter_append, List.map_append, List.filter_cons, decide_eq_false (show ¬ bef m < m by lia)]; simp
            · dsimp only
              rw [List.length_map, List.take_length]
              repeat km_tabs pj
              refine EV_list (by kernel_rfl) ?_
              repeat km_tabs pj
              refine ⟨Nat.le_of_ble_eq_true rfl, ?_⟩
              refine OP_eqd (n := 1) (.list (Dats.map (g := fun (n : Nat) => Dt.int (n : Int)) fun n _ => .int _)) (.list .nil) (.list fun i x y _ h => by simp at h) (by decide) (fun r hr => ?_)
              rw [decide_eq_true z', Bool.true_and] at hcond
              cases r with
              | true =>
                have he : condT bef f t = true := by
                  rw [hcond, List.isEmpty_iff]
                  have := hr.mp rfl
                  simpa using this
                repeat km_tabs pj
                with_reducible refine ETs_nil ?_
                repeat km_tabs pj
                with_reducible refine EX_expr (fun _ => by with_unfolding_all rfl) ?_
                repeat km_tabs pj
                refine ⟨_, gm_append get_at, by kernel_rfl, ?_⟩
                repeat km_tabs pj
                refine CALL_append get_at (hF.nin (Nat.le_refl _)) (by
                  have h1 := List.length_filter_le (condT bef f) ((allTr (i' + 2)).take j)
                  have h2 := allTr_len (n := i' + 2) (ar3 (by assumption) (by rfl))
                  rw [List.length_take] at h1
                  rw [List.length_map, List.length_append]; lia) ?_
                rw [set_at]
                repeat km_tabs pj
                refine ⟨(), .cons rfl (.cons rfl (.cons rfl (.cons rfl .nil))), rfl, ?_⟩
                rw [take_succ_get ht, List.filter_append, ← List.append_assoc, List.map_append (l₁ := l ++ _), List.filter_cons, he]; rfl
              | false =>
                have he : condT bef f t = false := by
                  cases hcc : condT bef f t with
                  | false => rfl
                  | true =>
                    rw [hcc] at hcond
                    have : (false : Bool) = true := hr.mpr (by rw [List.isEmpty_iff.mp hcond.symm]; rfl)
                    cases this
                repeat km_tabs pj
                refine ⟨(), .cons rfl (.cons rfl (.cons rfl (.cons rfl .nil))), rfl, ?_⟩
                rw [hno he]
          · repeat km_tabs pj
            refine ⟨(), .cons rfl (.cons rfl (.cons rfl (.cons rfl .nil))), rfl, ?_⟩
            rw [hno (by rw [hcond, decide_eq_false (fun y => z (ai5 (by assumption)))]; rfl)]
      · rintro _ v2 H' hs ⟨-, rfl⟩
        rw [List.length_map, List.take_length]
        refine seqK_next (EXs.sub hs ?_)
        repeat km_tabs pj
        exact ⟨(i' + 1, f, l ++ (allTr (i' + 2)).filter (condT bef f)), .cons rfl (.cons rfl (.cons rfl .nil)), rfl, rfl, rfl, .succ hT hf⟩
    · rintro ⟨i', bef, l⟩ v2 H' hs ⟨-, hi, rfl, hT⟩
      dsimp only at hi hT hs ⊢
      subst hi
      exact ⟨rfl, bef, l, hT, .cons (hs _ _ rfl) (.cons (hs _ _ rfl) .nil), rfl⟩
  · intro fl v H' zz1; refine zz1.elim fun zz2 zz3 => zz3.elim fun f zz4 => zz4.elim fun l zz5 => zz5.elim fun hT zz6 => zz6.elim fun hs zz7 => ?_; clear zz6 zz5 zz4 zz3 zz1; (first | subst zz2 | cases zz2); (first | subst zz7 | cases zz7)
    refine seqK_next (EXs.sub hs ?_)
    repeat km_tabs pj
    refine ⟨Nat.le_of_ble_eq_true rfl, ?_⟩
    repeat km_tabs pj
    exact ⟨_, .tup (.cons (.rlist (Nat.le_refl _) get_at (frz_of (scps_map fun t _ => t.scp))) (.cons (.scp (.dictI (by unfold dictAv; rw [List.map_map]; exact scps_map fun n _ => .int _))) .nil)), q f l hT⟩
end
end
section
theorem escL_cons {risky w : List Nat} {c : Nat} : (escL risky (c :: w)).flatten = (if c ∈ risky then [92, c] else [c]) ++ (escL risky w).flatten := by
  unfold escL
  rw [List.map_cons, List.flatten_cons]
  by_cases h : c ∈ risky
  · rw [if_pos (decide_eq_true h), if_pos h]; rfl
  · rw [if_neg (by simpa using h), if_neg h]
theorem bare_read {risky rest : List Nat} {c : Nat} (hc : wsp c = true) (hr : ∀ x, wsp x = true ∨ x = 92 → x ∈ risky) : ∀ (w t : List Nat), bareT t ((escL risky w).flatten ++ c :: rest) = (t ++ w, rest)
  | [], t => by rw [show (escL risky []).flatten = [] from rfl, List.nil_append, bareT_ws hc, List.append_nil]
  | x :: w, t => by
    rw [escL_cons, List.append_assoc]
    by_cases h : x ∈ risky
    · rw [if_pos h]
      simp only [List.cons_append, List.nil_append]
      rw [bareT_esc, bare_read hc hr w]; simp
    · rw [if_neg h]
      simp only [List.cons_append, List.nil_append]
      have h1 : wsp x = false := by
        cases e : wsp x with
        | false => rfl
        | true => exact absurd (hr x (.inl e)) h
      rw [bareT_c h1 (fun e => h (hr x (.inr e))), bare_read hc hr w]; simp
theorem bare_end {risky : List Nat} (hr : ∀ x, wsp x = true ∨ x = 92 → x ∈ risky) : ∀ (w t : List Nat), bareT t (escL risky w).flatten = (t ++ w, [])
  | [], t => by rw [show (escL risky []).flatten = [] from rfl, bareT_nil, List.append_nil]
  | x :: w, t => by
    rw [escL_cons]
    by_cases h : x ∈ risky
    · rw [if_pos h]
      simp only [List.cons_append, List.nil_append]
      rw [bareT_esc, bare_end hr w]; simp
    · rw [if_neg h]
      simp only [List.cons_append, List.nil_append]
      have h1 : wsp x = false := by
        cases e : wsp x with
        | false => rfl
        | true => exact absurd (hr x (.inl e)) h
      rw [bareT_c h1 (fun e => h (hr x (.inr e))), bare_end hr w]; simp
theorem quot_read {rest : List Nat} : ∀ (w t : List Nat), quotT t ((escL [34, 92] w).flatten ++ 34 :: rest) = (t ++ w, rest)
  | [], t => by rw [show (escL [34, 92] []).flatten = [] from rfl, List.nil_append, quotT_q, List.append_nil]
  | x :: w, t => by
    rw [escL_cons, List.append_assoc]
    by_cases h : x ∈ [34, 92]
    · rw [if_pos h]
      simp only [List.cons_append, List.nil_append]
      rw [quotT_esc, quot_read w]; simp
    · rw [if_neg h]
      simp only [List.cons_append, List.nil_append]
      rw [quotT_c (fun e => h (by simp [e])) (fun e => h (by simp [e])), quot_read w]; simp
theorem quot_end : ∀ (w t : List Nat), quotT t (escL [34, 92] w).flatten = (t ++ w, [])
  | [], t => by rw [show (escL [34, 92] []).flatten = [] from rfl, quotT_nil, List.append_nil]
  | x :: w, t => by
    rw [escL_cons]
    by_cases h : x ∈ [34, 92]
    · rw [if_pos h]
      simp only [List.cons_append, List.nil_append]
      rw [quotT_esc, quot_end w]; simp
    · rw [if_neg h]
      simp only [List.cons_append, List.nil_append]
      rw [quotT_c (fun e => h (by simp [e])) (fun e => h (by simp [e])), quot_end w]; simp
theorem tok_ws {c : Nat} {r : List Nat} (h : wsp c = true) : tokT (c :: r) = tokT r := by rw [tokT.eq_def]; dsimp only; rw [if_pos h]
theorem tok_quote {r : List Nat} : tokT (34 :: r) = quotT [] r := by rw [tokT.eq_def]; dsimp only; rw [if_neg (by decide), if_pos rfl]
theorem risky_ws {w : List Nat} : ∀ x, wsp x = true ∨ x = 92 → x ∈ riskyT w true := fun x h => by
  unfold riskyT
  rw [if_pos rfl, List.mem_append]
  left
  unfold wsp at h
  simp at h ⊢; lia
theorem tok_bare {x : Nat} {w u : List Nat} : tokT ((escL (riskyT (x :: w) true) (x :: w)).flatten ++ u) = bareT [x] ((escL (riskyT (x :: w) true) w).flatten ++ u) := by
  rw [escL_cons, List.append_assoc]
  by_cases h : x ∈ riskyT (x :: w) true
  · rw [if_pos h]
    simp only [List.cons_append, List.nil_append]
    rw [tokT.eq_def]; dsimp only
    rw [if_neg (by decide), if_neg (by decide), if_pos rfl]
  · rw [if_neg h]
    simp only [List.cons_append, List.nil_append]
    have h1 : wsp x = false := by
      cases e : wsp x with
      | false => rfl
      | true => exact absurd (risky_ws x (.inl e)) h
    have h2 : x ≠ 92 := fun e => h (risky_ws x (.inr e))
    have h3 : x ≠ 34 := fun e => h (by
      subst e
      unfold riskyT
      rw [if_pos rfl, if_pos (by rfl)]; simp)
    rw [tokT.eq_def]; dsimp only
    rw [if_neg (by rw [h1]; decide), if_neg h3, if_neg h2]
theorem tok_written {w rest : List Nat} {b : Bool} {c : Nat} (hw : w ≠ []) (hc : wsp c = true) : tokT (writtenT w b [c] ++ rest) = (w, rest) := by
  unfold writtenT
  cases b with
  | true =>
    rw [if_pos rfl]
    cases w with
    | nil => exact absurd rfl hw
    | cons x w =>
      rw [List.append_assoc, tok_bare]
      show bareT [x] (_ ++ c :: rest) = _
      rw [bare_read hc risky_ws]; rfl
  | false =>
    rw [if_neg (by decide), List.append_assoc, List.append_assoc, List.append_assoc]
    show tokT (c :: 34 :: (_ ++ 34 :: rest)) = _
    rw [tok_ws hc, tok_quote]
    show quotT [] ((escL [34, 92] w).flatten ++ 34 :: rest) = _
    rw [quot_read]; rfl
theorem tok_written_end {w : List Nat} {b : Bool} {c : Nat} (hw : w ≠ []) (hc : wsp c = true) : tokT (writtenT w b [c]).dropLast = (w, []) := by
  unfold writtenT
  cases b with
  | true =>
    rw [if_pos rfl, List.dropLast_concat]
    cases w with
    | nil => exact absurd rfl hw
    | cons x w =>
      have := tok_bare (x := x) (w := w) (u := [])
      rw [List.append_nil, List.append_nil] at this
      rw [this, bare_end risky_ws]; rfl
  | false =>
    rw [if_neg (by decide), List.dropLast_concat, List.append_assoc]
    show tokT (c :: 34 :: _) = _
    rw [tok_ws hc, tok_quote]
    show quotT [] (escL [34, 92] w).flatten = _
    rw [quot_end]; rfl
theorem written_len {w : List Nat} {b : Bool} {c : Nat} : (writtenT w b [c]).length ≤ 2 * w.length + 3 := by
  have h := fun r => esc_sum (risky := r) (w := w)
  unfold writtenT
  split
  · rw [List.length_append, List.length_flatten]; have := h (riskyT w b); simp; lia
  · simp only [List.length_append, List.length_flatten]; have := h (riskyT w b); simp; lia
theorem written_ne {w : List Nat} {b : Bool} {c : Nat} : writtenT w b [c] ≠ [] := by
  unfold writtenT
  split <;> simp
theorem page {w0 w1 w2 w3 : List Nat} {b0 b1 b2 b3 : Bool} {c0 c1 c2 c3 : Nat} (n0 : w0 ≠ []) (n1 : w1 ≠ []) (n2 : w2 ≠ []) (n3 : w3 ≠ []) (h0 : wsp c0 = true) (h1 : wsp c1 = true) (h2 : wsp c2 = true) (h3 : wsp c3 = true)
    (l0 : w0.length ≤ 6) (l1 : w1.length ≤ 6) (l2 : w2.length ≤ 6) (l3 : w3.length ≤ 6) :
    ∃ t1 t2 t3, tokT (([writtenT w0 b0 [c0], writtenT w1 b1 [c1], writtenT w2 b2 [c2], writtenT w3 b3 [c3]].flatten).dropLast) = (w0, t1) ∧ tokT t1 = (w1, t2) ∧ tokT t2 = (w2, t3) ∧ tokT t3 = (w3, []) ∧
      ([writtenT w0 b0 [c0], writtenT w1 b1 [c1], writtenT w2 b2 [c2], writtenT w3 b3 [c3]].flatten).length ≤ 100 ∧ t1.length ≤ 1000 ∧ t2.length ≤ 1000 ∧ t3.length ≤ 1000 := by
  have q0 := written_len (w := w0) (b := b0) (c := c0)
  have q1 := written_len (w := w1) (b := b1) (c := c1)
  have q2 := written_len (w := w2) (b := b2) (c := c2)
  have q3 := written_len (w := w3) (b := b3) (c := c3)
  have e : [writtenT w0 b0 [c0], writtenT w1 b1 [c1], writtenT w2 b2 [c2], writtenT w3 b3 [c3]].flatten = writtenT w0 b0 [c0] ++ (writtenT w1 b1 [c1] ++ (writtenT w2 b2 [c2] ++ writtenT w3 b3 [c3])) := by simp
  rw [e]
  refine ⟨writtenT w1 b1 [c1] ++ (writtenT w2 b2 [c2] ++ (writtenT w3 b3 [c3]).dropLast), writtenT w2 b2 [c2] ++ (writtenT w3 b3 [c3]).dropLast, (writtenT w3 b3 [c3]).dropLast, ?_, ?_, ?_, ?_, ?_, ?_, ?_, ?_⟩
  · rw [List.dropLast_append_of_ne_nil (by simp [written_ne]), List.dropLast_append_of_ne_nil (by simp [written_ne]), List.dropLast_append_of_ne_nil written_ne, tok_written n0 h0]
  · exact tok_written n1 h1
  · exact tok_written n2 h2
  · exact tok_written_end n3 h3
  · simp only [List.length_append]; lia
  · simp only [List.length_append, List.length_dropLast]; lia
  · simp only [List.length_append, List.length_dropLast]; lia
  · simp only [List.length_dropLast]; lia
end
section
theorem EX_lc {C : Cx} {sc : Scope} {vars : Vars} {H : List AO} {x : String} {pos pos' cpos : Pos} {elt : Expr} {gens : List Comprehension} {scope : Scope} {Q : AF → Vars → List AO → Prop} (hs : (sc.names.lookup (Str.ofString x) == some .local) = false) (hx : isOwn sc (Str.ofString x) = true)
    (h : EV C sc vars H (.ListComp elt gens scope cpos) fun v H1 => Q .next (upd x v vars) H1) : EX C sc vars H (.Assign [.Name (Str.ofString x) pos'] (.ListComp elt gens scope cpos) pos) Q := EX_assign' (fun _ hE => swaps_no hE hs) hx h
theorem EX_lcl {C : Cx} {sc : Scope} {vars : Vars} {H : List AO} {x : String} {pos pos' cpos : Pos} {elt : Expr} {g : Comprehension} {gs : List Comprehension} {scope : Scope} {Q : AF → Vars → List AO → Prop} (hs : sc.names.lookup (Str.ofString x) = some .local) (hl : (pos'.line == cpos.line) = true)
    (hn : (scope.names.any fun (n, k) => n == Str.ofString x && (k == .local || k == .cell)) = false) (hx : isOwn sc (Str.ofString x) = true) (ok : compOk sc scope = true) (ha : g.is_async = 0) (hfold : ∀ env x, foldedSetIterable g.iter env x = pure x)
    (tg : ((g :: gs).all fun g => tgOk scope g.target) = true) (h : CMP C sc vars H elt g gs scope fun ys H1 => Q .next (upd x (.list ys) vars) H1) : EX C sc vars H (.Assign [.Name (Str.ofString x) pos'] (.ListComp elt (g :: gs) scope cpos) pos) Q := EX_comp (fun _ hE => swaps_yes hE hs hl hn) hx ok ha hfold (tgs tg) h
theorem EVI_en {C : Cx} {sc : Scope} {vars : Vars} {H : List AO} {elts : List Expr} {k : Nat} {tpos : Pos} {p : Pos} {e : Expr} {pos : Pos} {Q : List Nat → List AV → List AO → Prop} (O : C.B.Ok) (hp : plainArgs [e] = true)
    (hev : ∀ env, eval (.Call (.Name (Str.ofString "enumerate") p) [e] [] pos) env = (do callWith pos (← eval (.Name (Str.ofString "enumerate") p) env) [] (backTo pos (starEach [e] env)) []))
    (h : EV C sc vars H (.Name (Str.ofString "enumerate") p) fun fv H1 => fv = .val (.type "enumerate") ∧ EV C sc vars H1 e fun v H2 => ∃ ys, v = .list ys ∧ Q [] (enumAV ys) H2) : EVI C sc vars H (.Tuple elts k tpos) (.Call (.Name (Str.ofString "enumerate") p) [e] [] pos) Q := EVI_enum O hp hev h
noncomputable def scOf (o : Option Obj) : Scope := match o with | some ⟨_, _, .func fd, _⟩ => fd.scope | _ => default
noncomputable def bdOf (o : Option Obj) : List Stmt := match o with | some ⟨_, _, .func fd, _⟩ => (match fd.body with | .stmts b => b | _ => []) | _ => []
noncomputable def lawBd (P : Params) (n : Nat) : List Stmt := (bdOf ((KB P).lookup 230)).drop n
noncomputable def lawSc (P : Params) : Scope := scOf ((KB P).lookup 230)
structure Good (prs : List (Tr × Tr)) : Prop where
  sums : ∀ p ∈ prs, p.1.sum ≤ 4 ∧ p.2.sum ≤ 4
  len : prs.length = 3
  mem : ∀ i, i < 3 → ∀ s ∈ prs.map (fun p => (p.1.num, p.2.num)), ∀ k ∈ nums i, s.1 + k ∈ nums (i + 2) ∧ s.2 + k ∈ nums (i + 2)
  run : ∃ n fin, runF n ⟨prs, [], []⟩ = some fin ∧ (∀ p ∈ fin.asked, p.1.room p.2 ≤ 5 ∧ p.1.sum ≤ 4 ∧ p.2.sum ≤ 4) ∧ fin.asked.length ≤ 200 ∧ fin.kept.length ≤ 6 ∧ ∀ f l, TK (prs.map fun p => (p.1.num, p.2.num)) 3 f l →
    (∀ t ∈ allTr 4, ∃ m u, Down fin.kept m t u ∧ u.num = f t.num) ∧ (fin.kept.map (·.1)).Perm l ∧ l.Nodup
noncomputable def trDt (t : Tr) : Dt := .list [.int (t.a : Int), .int (t.b : Int), .int (t.c : Int)]
theorem tr_dat {H : List AO} (t : Tr) : Dat H t.av (trDt t) := .list (.cons (.int _) (.cons (.int _) (.cons (.int _) .nil)))
theorem cmp_tr (s t : Tr) : Cmp 1 (trDt s) (trDt t) := .list fun i x y hx hy => by
  match i, hx, hy with
  | 0, hx, hy => cases hx; cases hy; exact .int _ _
  | 1, hx, hy => cases hx; cases hy; exact .int _ _
  | 2, hx, hy => cases hx; cases hy; exact .int _ _
noncomputable def pairDt (r : Tr × Tr) : Dt := .list [trDt r.1, trDt r.2]
theorem cmp_pair (s t : Tr × Tr) : Cmp 2 (pairDt s) (pairDt t) := .list fun i x y hx hy => by
  match i, hx, hy with
  | 0, hx, hy => cases hx; cases hy; exact cmp_tr _ _
  | 1, hx, hy => cases hx; cases hy; exact cmp_tr _ _
theorem pair_dat {H : List AO} (r : Tr × Tr) : Dat H (pairAv r) (pairDt r) := .list (.cons (tr_dat _) (.cons (tr_dat _) .nil))
noncomputable def numDt (p : Nat × Nat) : Dt := .list [.int (tokv p.1 : Int), .int (tokv p.2 : Int)]
theorem cmp_num (s t : Nat × Nat) : Cmp 1 (numDt s) (numDt t) := .list fun i x y hx hy => by
  match i, hx, hy with
  | 0, hx, hy => cases hx; cases hy; exact .int _ _
  | 1, hx, hy => cases hx; cases hy; exact .int _ _
theorem num_dat {H : List AO} (p : Nat × Nat) : Dat H (.list [.int (tokv p.1 : Int), .int (tokv p.2 : Int)]) (numDt p) := .list (.cons (.int _) (.cons (.int _) .nil))
theorem tok_int {c : Nat} (h : c < 256) : (tbl.lookup [c]).getD (c : Int) = (tokv c : Int) := by
  have := tbl_nn c h
  unfold tokv; omega
end
section
section
variable {C : Cx} {H : List AO}
theorem gm_count {l : List Nat} : GETM C H (.str l) (Str.ofString "count") (.builtin "str.count") := GETM_b .str PySem.F.plainAttrs_str PySem.F.slot_str_count PySem.F.type_str_count
theorem trDt_inj {s t : Tr} (h : trDt s = trDt t) : s = t := by
  unfold trDt at h
  obtain ⟨a, b, c⟩ := s
  obtain ⟨a', b', c'⟩ := t
  simp only [Dt.list.injEq, List.cons.injEq, Dt.int.injEq] at h
  obtain ⟨h1, h2, h3, _⟩ := h
  congr 1 <;> exact ai4 (by assumption)
theorem trDt_lt (s t : Tr) : s = t ∨ LtD (trDt s) (trDt t) ∨ LtD (trDt t) (trDt s) := by
  have hd : ∀ {i j : Int} {xs ys : List Dt}, i < j → LtDs (.int i :: xs) (.int j :: ys) := fun h => .head (fun e => by cases e; exact at10 (by assumption)) (.int h)
  unfold trDt
  rcases Int.lt_trichotomy (s.a : Int) t.a with h | h | h
  · exact .inr (.inl (.list (hd h)))
  · rw [h]
    rcases Int.lt_trichotomy (s.b : Int) t.b with h' | h' | h'
    · exact .inr (.inl (.list (.tail (hd h'))))
    · rw [h']
      rcases Int.lt_trichotomy (s.c : Int) t.c with h2 | h2 | h2
      · exact .inr (.inl (.list (.tail (.tail (hd h2)))))
      · left
        obtain ⟨a, b, c⟩ := s
        obtain ⟨a', b', c'⟩ := t
        dsimp only at h h' h2
        congr 1 <;> exact ai4 (by assumption)
      · exact .inr (.inr (.list (.tail (.tail (hd h2)))))
    · exact .inr (.inr (.list (.tail (hd h'))))
  · exact .inr (.inr (.list (hd h)))
theorem sortable_tr {l : List Tr} (h : l.Nodup) : Sortable (l.map trDt) := ⟨List.pairwise_map.mpr (h.imp fun n e => n (trDt_inj e)), fun a ha b hb => by
  refine (List.mem_map.mp ha).elim fun s zz1 => zz1.elim fun _ zz2 => ?_; clear zz1; (first | subst zz2 | cases zz2)
  refine (List.mem_map.mp hb).elim fun t zz1 => zz1.elim fun _ zz2 => ?_; clear zz1; (first | subst zz2 | cases zz2)
  rcases trDt_lt s t with e | e
  · exact .inl (by rw [e])
  · exact .inr e⟩
theorem sortK_tr (l : List Tr) : SortK (l.map trDt) := SortK_lists fun d hd => by
  refine (List.mem_map.mp hd).elim fun t zz1 => zz1.elim fun _ zz2 => ?_; clear zz1; (first | subst zz2 | cases zz2)
  exact ⟨[t.a, t.b, t.c], rfl⟩
theorem law5 (G : GKB C.B) (hd : 10 < C.d) (hF : C.F = []) {P : Params} (hP : C.B.w.params = P) {prs : List (Tr × Tr)} {kept : List Rule} {text : List Nat} (hm : ∀ i, i < 3 → ∀ s ∈ prs.map (fun p => (p.1.num, p.2.num)), ∀ k ∈ nums i, s.1 + k ∈ nums (i + 2) ∧ s.2 + k ∈ nums (i + 2))
    (hp3 : prs.length = 3) (hk6 : kept.length ≤ 6) (hT : ∀ f l, TK (prs.map fun p => (p.1.num, p.2.num)) 3 f l → (∀ t ∈ allTr 4, ∃ m u, Down kept m t u ∧ u.num = f t.num) ∧ (kept.map (·.1)).Perm l ∧ l.Nodup)
    {Qs : AF → Vars → List AO → Prop} (q : ∀ v, Qs (.ret (.bool true)) v (LX P (1 + (text.count 10 : Nat)) [] [] [])) :
    EXs C (lawSc P) [("kept", .list (kept.map ruleAv)), ("last", .str [46]), ("lexer", .ref 3), ("text", .str text), ("sides", .list ((prs.flatMap fun p => [p.1, p.2]).map Tr.av))] (LX P (1 + (text.count 10 : Nat)) [] [] []) (lawBd P 15) Qs := by
  unfold lawBd lawSc
  conv => arg 2; whnf
  conv => arg 5; whnf
  obtain ⟨p1, p2, p3, rfl⟩ : ∃ p1 p2 p3, prs = [p1, p2, p3] := by
    match prs, hp3 with
    | [a, b, c], _ => exact ⟨a, b, c, rfl⟩
  repeat km_tabs pj
  with_reducible refine EX_lcl (by kernel_rfl!) (by kernel_rfl!) (by kernel_rfl) (by kernel_rfl) (by kernel_rfl) rfl (fun _ _ => by with_unfolding_all rfl) (by kernel_rfl) ?_
  repeat km_tabs pj
  with_reducible refine EVI_val ?_
  repeat km_tabs pj
  refine ITV_list ?_
  refine ⟨[p1.1, p1.2, p2.1, p2.2, p3.1, p3.2].map fun (t : Tr) => AV.int (t.num : Int), rfl, Nat.le_of_ble_eq_true rfl, fun k v hk => ?_, ?_⟩
  · have hk' : ([p1.1, p1.2, p2.1, p2.2, p3.1, p3.2].map Tr.av)[k]? = some v := hk
    rw [List.getElem?_map] at hk'
    refine (Option.map_eq_some_iff.mp hk').elim fun t zz1 => zz1.elim fun ht zz2 => ?_; clear zz1; (first | subst zz2 | cases zz2)
    repeat km_tabs pj
    refine number_ok (C := C.hold []) (by assumption) (by km_tabs pj_d) ?_
    exact ⟨rfl, by rw [List.getElem?_map, ht]; rfl⟩
  repeat km_tabs pj
  with_reducible refine EX_assign_to (fun _ => by with_unfolding_all rfl) (fun _ _ => by with_unfolding_all rfl) (fun _ => by with_unfolding_all rfl) ?_
  repeat km_tabs pj
  refine EV_list (by kernel_rfl) ?_
  repeat km_tabs pj
  refine SLICE_list (Nat.le_of_ble_eq_true rfl) ?_
  repeat km_tabs pj
  refine SLICE_list (Nat.le_of_ble_eq_true rfl) ?_
  repeat km_tabs pj
  refine SLICE_list (Nat.le_of_ble_eq_true rfl) ?_
  repeat km_tabs pj
  refine ⟨Nat.le_of_ble_eq_true rfl, ?_⟩
  repeat km_tabs pj
  have hF' : ∀ n, FOk C n := fun n i hi => by rw [hF] at hi; cases hi
  refine taken_ok (C := C) (steps := [p1, p2, p3].map fun p => (p.1.num, p.2.num)) G (ar7 (by assumption) (by rfl)) (hF' _) hm (fun f l hTK => ?_)
  refine (hT f l hTK).elim fun h1 zz1 => zz1.elim fun h2 h3 => ?_; clear zz1
  repeat km_tabs pj
  with_reducible refine AS_tuple (by kernel_rfl) ?_
  repeat km_tabs pj
  with_reducible refine ASs_nil ?_
  repeat km_tabs pj
  with_reducible refine CMP_pure (by kernel_rfl) ?_
  repeat km_tabs pj
  with_reducible refine EVI_all ?_
  repeat km_tabs pj
  refine all_ok (C := C) (n := 4) (by assumption) (ar7 (by assumption) (by rfl)) (by exact Nat.le_of_ble_eq_true rfl) ?_
  refine ITV_list ?_
  refine ⟨fun _ => [], rfl, fun _ _ => Nat.zero_le _, fun k v hk => ?_, ?_⟩
  · rw [List.getElem?_map] at hk
    refine (Option.map_eq_some_iff.mp hk).elim fun t zz1 => zz1.elim fun ht zz2 => ?_; clear zz1; (first | subst zz2 | cases zz2)
    refine (h1 t (List.mem_of_getElem? ht)).elim fun m zz1 => zz1.elim fun u zz2 => zz2.elim fun hdn hu => ?_; clear zz2 zz1
    repeat km_tabs pj
    with_reducible refine TST_one ?_
    repeat km_tabs pj
    refine down_ok (C := C.hold []) (kept := kept) (by assumption) (by km_tabs pj_d) .imm (ar1 (by assumption) (by rfl)) hdn ?_
    repeat km_tabs pj
    refine number_ok (C := C.hold []) (by assumption) (by km_tabs pj_d) ?_
    repeat km_tabs pj
    refine number_ok (C := C.hold []) (by assumption) (by km_tabs pj_d) ?_
    refine SUB_dictI (dict_get (List.mem_map_of_mem (List.mem_of_getElem? ht))) ?_
    repeat km_tabs pj
    with_reducible refine OP_nei ?_
    repeat km_tabs pj
    rw [hu]
    rw [show (((f t.num : Nat) : Int) != ((f t.num : Nat) : Int)) = false by simp]
    exact if_ff rfl
  dsimp only
  repeat km_tabs pj
  refine EV_list (by kernel_rfl) ?_
  repeat km_tabs pj
  refine ⟨Nat.le_of_ble_eq_true rfl, ?_⟩
  refine OP_ned (n := 1) (.list .nil) (.list .nil) (.list fun i x y h _ => by simp at h) (by decide) (fun r hr => ?_)
  have hr0 : r = false := by
    cases r with
    | false => rfl
    | true => exact absurd rfl (hr.mp rfl)
  subst hr0
  repeat km_tabs pj
  with_reducible refine CMP_map2 (by decide) (by kernel_rfl) (by kernel_rfl) ?_
  repeat km_tabs pj
  with_reducible refine EVI_val ?_
  repeat km_tabs pj
  refine ITV_list ?_
  refine ⟨kept.map fun r => (r.1.av, r.2.av), kept.map fun r => r.1.av, by rw [List.map_map]; rfl, by rw [List.length_map, List.length_map], by rw [List.length_map]; exact ar1 (by assumption) (by rfl), fun k u hu => ?_, ?_⟩
  · rw [List.getElem?_map] at hu
    refine (Option.map_eq_some_iff.mp hu).elim fun r zz1 => zz1.elim fun hr1 zz2 => ?_; clear zz1; (first | subst zz2 | cases zz2)
    repeat km_tabs pj
    rw [List.getElem?_map, hr1]; rfl
  have hl6 : l.length ≤ 6 := by rw [← h2.length_eq, List.length_map]; exact hk6
  have hnd : (kept.map (·.1)).Nodup := h2.nodup_iff.mpr h3
  have s1 : Sortable ((kept.map (·.1)).map trDt) := sortable_tr hnd
  have s2 : Sortable (l.map trDt) := sortable_tr h3
  repeat km_tabs pj
  refine CALL_sorted (ds := (kept.map (·.1)).map trDt) .imm (by rw [List.map_map]; exact Dats.map fun r _ => tr_dat _) s1 (by rw [List.length_map, List.length_map]; exact hk6) (sortK_tr _) (fun ys es hd1 hp1 hw1 => ?_)
  repeat km_tabs pj
  refine CALL_sorted (ds := l.map trDt) .imm (Dats.map fun r _ => tr_dat _) s2 (by rw [List.length_map]; exact hl6) (sortK_tr _) (fun ys' es' hd2 hp2 hw2 => ?_)
  have he : es = es' := sorted_uniq (hp1.trans ((h2.map trDt).trans hp2.symm)) hw1 hw2
  subst he
  refine OP_ned (n := 2) (.list hd1) (.list hd2) (.list fun i x y hx hy => ?_) (by decide) (fun r hr => ?_)
  · have q1 := hp2.mem_iff.mp (List.mem_of_getElem? hx)
    have q2 := hp2.mem_iff.mp (List.mem_of_getElem? hy)
    refine (List.mem_map.mp q1).elim fun t1 zz1 => zz1.elim fun _ zz2 => ?_; clear zz1; (first | subst zz2 | cases zz2)
    refine (List.mem_map.mp q2).elim fun t2 zz1 => zz1.elim fun _ zz2 => ?_; clear zz1; (first | subst zz2 | cases zz2)
    refine .list fun i x y hx hy => ?_
    match i, hx, hy with
    | 0, hx, hy => cases hx; cases hy; exact .int _ _
    | 1, hx, hy => cases hx; cases hy; exact .int _ _
    | 2, hx, hy => cases hx; cases hy; exact .int _ _
  have hr0 : r = false := by
    cases r with
    | false => rfl
    | true => exact absurd rfl (hr.mp rfl)
  subst hr0
  repeat km_tabs pj
  with_reducible refine EV_and ?_
  repeat km_tabs pj
  with_reducible refine EV_cmp (by kernel_rfl) ?_
  repeat km_tabs pj
  with_reducible refine OP_eqs ?_
  repeat km_tabs pj
  refine if_bool (fun _ => ?_) (fun z => absurd z (by decide))
  repeat km_tabs pj
  with_reducible refine EV_cmp (by kernel_rfl) ?_
  repeat km_tabs pj
  with_reducible refine EV_attr (fun _ => by with_unfolding_all rfl) ?_
  repeat km_tabs pj
  refine ⟨_, ga_lx (by assumption) (by kernel_rfl) rfl (fun _ h => by cases h), ?_⟩
  repeat km_tabs pj
  refine ⟨_, gm_count, by kernel_rfl, ?_⟩
  repeat km_tabs pj
  refine CALL_count ?_
  repeat km_tabs pj
  with_reducible refine OP_eqi ?_
  repeat km_tabs pj
  rw [show ((1 + ((text.count 10 : Nat) : Int) - (([] : List Nat).count 10 : Nat)) == 1 + ((text.count 10 : Nat) : Int)) = true by simp]
  exact q _
end
end
section
theorem EV_ifc {C : Cx} {sc : Scope} {vars : Vars} {H : List AO} {t : Expr} {i j : Int} {k k' : Nat} {p p' pos : Pos} {Q : AV → List AO → Prop} (h : ET C sc vars H t fun b H1 => Q (.int (if b = true then i else j)) H1) : EV C sc vars H (.IfExp t (.Constant (.int i) k p) (.Constant (.int j) k' p') pos) Q :=
  EV_ifexp (h.mono fun b H1 q => by
    cases b with
    | true => exact EV_int q
    | false => exact EV_int q)
section
variable {C : Cx} {H : List AO}
noncomputable def allRows (x y : Tr) : List (Nat × Nat × Nat) := (List.range (x.room y)).map fun j => (j + 1, x.col (j + 1), y.col (j + 1))
theorem law4 (G : GKB C.B) (hd : 10 < C.d) (hF : C.F = []) {P : Params} (hP : C.B.w.params = P) {N : Int} {prs : List (Tr × Tr)} {fin : RS} {text left : List Nat} {n : Nat} (hp3 : prs.length = 3) (hs : ∀ p ∈ prs, p.1.sum ≤ 4 ∧ p.2.sum ≤ 4)
    (hr : runF n ⟨prs, [], []⟩ = some fin) (ht : tokT left = ([46], [])) (hz : left.length ≤ 1000000) (ha : ∀ p ∈ fin.asked, p.1.room p.2 ≤ 5 ∧ p.1.sum ≤ 4 ∧ p.2.sum ≤ 4) (ha2 : fin.asked.length ≤ 200)
    {Qs : AF → Vars → List AO → Prop} (q : EXs C (lawSc P) [("kept", .list (fin.kept.map ruleAv)), ("last", .str [46]), ("lexer", .ref 3), ("text", .str text), ("sides", .list ((prs.flatMap fun p => [p.1, p.2]).map Tr.av))] (LX P N [] [] []) (lawBd P 15) Qs) :
    EXs C (lawSc P) [("pairs", .list (prs.map pairAv)), ("lexer", .ref 3), ("text", .str text), ("sides", .list ((prs.flatMap fun p => [p.1, p.2]).map Tr.av))] (LX P N left [] []) (lawBd P 13) Qs := by
  unfold lawBd lawSc
  conv => arg 2; whnf
  conv => arg 5; whnf
  subst hP
  have hFH : FHi C := fun i hi => by rw [hF] at hi; cases hi
  have hF5 : FOk C 5 := fun i hi => by rw [hF] at hi; cases hi
  refine EXs_seq ?_
  refine EX_assign_to (fun _ => by with_unfolding_all rfl) (fun _ _ => by with_unfolding_all rfl) (fun _ => by with_unfolding_all rfl) ?_
  repeat km_tabs pj
  refine lrun_ok (C := C) G (ar7 (by assumption) (by rfl)) hFH hF5 (ar5 (by assumption) (by rfl)) hs hr ht hz ?_
  repeat km_tabs pj
  with_reducible refine AS_tuple (by kernel_rfl) ?_
  repeat km_tabs pj
  with_reducible refine ASs_nil ?_
  repeat km_tabs pj
  refine EX.mono (Q := fun fl v H' => fl = .next ∧ Sub [("kept", .list (fin.kept.map ruleAv)), ("last", .str [46]), ("lexer", .ref 3), ("text", .str text), ("sides", .list ((prs.flatMap fun p => [p.1, p.2]).map Tr.av))] v ∧ H' = LX C.B.w.params N [] [] []) ?_ ?_
  · refine EX_forV (fun (_ : Unit) => [("kept", .list (fin.kept.map ruleAv)), ("last", .str [46]), ("lexer", .ref 3), ("text", .str text), ("sides", .list ((prs.flatMap fun p => [p.1, p.2]).map Tr.av))])
      (fun xs k _ H' => xs = fin.asked.map askAv ∧ H' = LX C.B.w.params N [] [] []) (fun _ _ => by with_unfolding_all rfl) ?_
    repeat km_tabs pj
    with_reducible refine EVI_val ?_
    repeat km_tabs pj
    refine ITV_list ?_
    refine ⟨⟨(), .cons rfl (.cons rfl (.cons rfl (.cons rfl (.cons rfl .nil)))), rfl, rfl⟩, ?_, ?_⟩
    · intro k v _ H' hk zz1; refine zz1.elim fun _ zz2 => ?_; clear zz1; (first | subst zz2 | cases zz2)
      rw [List.getElem?_map] at hk
      refine (Option.map_eq_some_iff.mp hk).elim fun p zz1 => zz1.elim fun hp zz2 => ?_; clear zz1; (first | subst zz2 | cases zz2)
      refine (ha p (List.mem_of_getElem? hp)).elim fun r1 zz1 => zz1.elim fun r2 r3 => ?_; clear zz1
      repeat km_tabs pj
      with_reducible refine AS_tuple (by kernel_rfl) ?_
      repeat km_tabs pj
      with_reducible refine ASs_nil ?_
      repeat km_tabs pj
      with_reducible refine EV_ifc ?_
      repeat km_tabs pj
      with_reducible refine OP_gt ?_
      repeat km_tabs pj
      refine CALL_max3 ?_
      have hroom : max (max (p.1.a : Int) (p.2.a : Int)) (if decide (0 < (p.1.c : Int) + (p.2.c : Int)) = true then 2 else 0) + 1 = ((p.1.room p.2 : Nat) : Int) := by
        unfold Tr.room
        by_cases h : 0 < p.1.c + p.2.c
        · rw [if_pos (decide_eq_true (by exact ai5 (by assumption))), if_pos h, cmx]; exact congrArg (· + (1 : Int)) (cmx _ 2)
        · rw [if_neg (by simp; lia), if_neg h, cmx]; exact congrArg (· + (1 : Int)) (cmx _ 0)
      repeat km_tabs pj
      with_reducible refine EX_lcl (by kernel_rfl!) (by kernel_rfl!) (by kernel_rfl) (by kernel_rfl) (by kernel_rfl) rfl (fun _ _ => by with_unfolding_all rfl) (by kernel_rfl) ?_
      repeat km_tabs pj
      with_reducible refine EVI_range2 (GW.ok (by assumption)) (by kernel_rfl) (fun _ => by with_unfolding_all rfl) ?_
      repeat km_tabs pj
      rw [hroom]
      repeat km_tabs pj
      have e1 : (((p.1.room p.2 : Nat) : Int) + 1 - 1).toNat = p.1.room p.2 := by exact ai23
      refine ⟨1, _, rfl, rfl, by decide, by exact ar3 (by assumption) (by rfl), (allRows p.1 p.2).map rowAv, by rw [e1, rng_len]; unfold allRows; rw [List.length_map, List.length_map, List.length_range], by unfold allRows; rw [List.length_map, List.length_map, List.length_range]; exact ar1 (by assumption) (by rfl), fun j v hj => ?_, ?_⟩
      · rw [e1] at hj
        refine (rng_get hj).elim fun zz1 hj' => ?_; (first | subst zz1 | cases zz1)
        rw [show (1 : Int) + (j : Nat) = ((j + 1 : Nat) : Int) by exact Int.add_comm _ _]
        repeat km_tabs pj
        refine column_ok (C := (C.hold []).hold []) (by assumption) (by km_tabs pj_d) (by exact Nat.le_of_ble_eq_true rfl) (by lia) ?_
        repeat km_tabs pj
        refine column_ok (C := (C.hold []).hold []) (by assumption) (by km_tabs pj_d) (by exact Nat.le_of_ble_eq_true rfl) (by lia) ?_
        repeat km_tabs pj
        refine ⟨Nat.le_of_ble_eq_true rfl, rfl, ?_⟩
        unfold allRows
        rw [List.getElem?_map, List.getElem?_map, List.getElem?_range hj']; rfl
      have hlr : (allRows p.1 p.2).length ≤ 5 := by unfold allRows; rw [List.length_map, List.length_range]; assumption
      have hrows : rowsT p.1 p.2 = (allRows p.1 p.2).filter fun r => r.2.1 != r.2.2 := rfl
      repeat km_tabs pj
      with_reducible refine CMP_pure (by kernel_rfl) ?_
      repeat km_tabs pj
      with_reducible refine EVI_val ?_
      repeat km_tabs pj
      refine ITV_list ?_
      refine ⟨fun k => (((allRows p.1 p.2).take k).filter fun r => r.2.1 != r.2.2).map rowAv, rfl, fun k _ => by
        have := List.length_filter_le (fun r : Nat × Nat × Nat => r.2.1 != r.2.2) ((allRows p.1 p.2).take k)
        rw [List.length_take] at this; rw [List.length_map]; exact Nat.le_trans this (Nat.le_trans (Nat.min_le_right _ _) (ar1 (by assumption) (by rfl))), fun j v hj => ?_, ?_⟩
      · rw [List.getElem?_map] at hj
        refine (Option.map_eq_some_iff.mp hj).elim fun w zz1 => zz1.elim fun hw zz2 => ?_; clear zz1; (first | subst zz2 | cases zz2)
        dsimp only
        rw [take_succ_get hw, List.filter_append, List.map_append, List.filter_cons]
        unfold rowAv
        repeat km_tabs pj
        with_reducible refine TST_one ?_
        repeat km_tabs pj
        with_reducible refine SUB_tup (by decide) (by with_unfolding_all rfl) (by with_unfolding_all exact Nat.le_of_ble_eq_true rfl) ?_
        repeat km_tabs pj
        with_reducible refine SUB_tup (by decide) (by with_unfolding_all rfl) (by with_unfolding_all exact Nat.le_of_ble_eq_true rfl) ?_
        repeat km_tabs pj
        with_reducible refine OP_nei ?_
        repeat km_tabs pj
        refine if_bool (fun z => ?_) (fun z => ?_)
        · have z' : (w.2.1 != w.2.2) = true := by simp at z ⊢; exact ai20 (by assumption)
          repeat km_tabs pj
          rw [z']; rfl
        · have z' : (w.2.1 != w.2.2) = false := by simp at z ⊢; exact ai4 (by assumption)
          rw [z']; simp
      dsimp only
      rw [List.length_map, List.take_length, ← hrows]
      refine OP_ned (n := 2) (.list rows_dats) (.list rows_dats) (.list fun i x y hx hy => ?_) (by decide) (fun r hr => ?_)
      · rw [List.getElem?_map] at hx hy
        refine (Option.map_eq_some_iff.mp hx).elim fun u zz1 => zz1.elim fun _ zz2 => ?_; clear zz1; (first | subst zz2 | cases zz2)
        refine (Option.map_eq_some_iff.mp hy).elim fun w zz1 => zz1.elim fun _ zz2 => ?_; clear zz1; (first | subst zz2 | cases zz2)
        refine .tup fun i x y hx hy => ?_
        match i, hx, hy with
        | 0, hx, hy => cases hx; cases hy; exact .int _ _
        | 1, hx, hy => cases hx; cases hy; exact .int _ _
        | 2, hx, hy => cases hx; cases hy; exact .int _ _
      have hr0 : r = false := by
        cases r with
        | false => rfl
        | true => exact absurd rfl (hr.mp rfl)
      subst hr0
      repeat km_tabs pj
      exact ⟨(), .cons rfl (.cons rfl (.cons rfl (.cons rfl (.cons rfl .nil)))), rfl, rfl⟩
    · intro _ v2 H' h2 zz1; refine zz1.elim fun _ zz2 => ?_; clear zz1; (first | subst zz2 | cases zz2)
      exact ⟨rfl, h2, rfl⟩
  · intro fl v H' zz1; refine zz1.elim fun zz2 zz3 => zz3.elim fun hv zz4 => ?_; clear zz3 zz1; (first | subst zz2 | cases zz2); (first | subst zz4 | cases zz4)
    exact seqK_next (EXs.sub hv q)
end
end
section
noncomputable def okP (p : Nat × Nat) : Prop := (0 < p.1 ∧ p.1 < 256) ∧ 0 < p.2 ∧ p.2 < 256
noncomputable def trP (p : Nat × Nat) : Tr := ((⟨0, 0, 0⟩ : Tr).bump (tokv p.1 % 3)).bump (tokv p.2 % 3)
noncomputable def lw (p q : Nat × Nat) (k : Nat) : List Nat := [p.1, p.2, 256 + k, q.1, q.2, 0]
theorem cmp_map {α : Type} {n : Nat} {f : α → Dt} (h : ∀ a b, Cmp n (f a) (f b)) {l m : List α} : Cmp (n + 1) (.list (l.map f)) (.list (m.map f)) := .list fun i x y hx hy => by
  rw [List.getElem?_map] at hx hy
  refine (Option.map_eq_some_iff.mp hx).elim fun u zz1 => zz1.elim fun _ zz2 => ?_; clear zz1; (first | subst zz2 | cases zz2)
  refine (Option.map_eq_some_iff.mp hy).elim fun w zz1 => zz1.elim fun _ zz2 => ?_; clear zz1; (first | subst zz2 | cases zz2)
  exact h u w
section
variable {C : Cx} {H : List AO}
noncomputable abbrev letAv (ps : List (Nat × Nat)) : AV := .list (ps.map fun p => .str [p.1, p.2])
noncomputable abbrev numAv (ps : List (Nat × Nat)) : AV := .list (ps.map fun p => .list [.int (tokv p.1 : Int), .int (tokv p.2 : Int)])
theorem law3 (G : GKB C.B) (hd : 10 < C.d) (hF : C.F = []) {P : Params} (hP : C.B.w.params = P) {N : Int} {p0 p1 p2 p3 p4 p5 : Nat × Nat} (hok : ∀ p ∈ [p0, p1, p2, p3, p4, p5], okP p) {text t1 t2 t3 : List Nat}
    (h0 : tokT text = (lw p0 p1 0, t1)) (h1 : tokT t1 = (lw p2 p3 1, t2)) (h2 : tokT t2 = (lw p4 p5 2, t3)) (hz : text.length ≤ 1000 ∧ t1.length ≤ 1000 ∧ t2.length ≤ 1000)
    {Qs : AF → Vars → List AO → Prop} (q : EXs C (lawSc P) [("pairs", .list ([(trP p0, trP p1), (trP p2, trP p3), (trP p4, trP p5)].map pairAv)), ("lexer", .ref 3), ("text", .str text), ("sides", .list ([trP p0, trP p1, trP p2, trP p3, trP p4, trP p5].map Tr.av))] (LX P N t3 [] []) (lawBd P 13) Qs) :
    EXs C (lawSc P) [("lexer", .ref 3), ("text", .str text), ("sides", .list ([trP p0, trP p1, trP p2, trP p3, trP p4, trP p5].map Tr.av)), ("words", .list ([lw p0 p1 0, lw p2 p3 1, lw p4 p5 2, [46]].map .str)), ("letters", letAv [p0, p1, p2, p3, p4, p5]), ("numbers", numAv [p0, p1, p2, p3, p4, p5])] (LX P N text [] []) (lawBd P 9) Qs := by
  unfold lawBd lawSc
  conv => arg 2; whnf
  conv => arg 5; whnf
  subst hP
  have hFH : FHi C := fun i hi => by rw [hF] at hi; cases hi
  have hFk : ∀ n, FOk C n := fun n i hi => by rw [hF] at hi; cases hi
  let rst : Nat → List Nat := fun k => [text, t1, t2, t3].getD k []
  let wrd : List (List Nat) := [lw p0 p1 0, lw p2 p3 1, lw p4 p5 2]
  have hrd : ∀ k, k < 3 → tokT (rst k) = (wrd.getD k [], rst (k + 1)) ∧ (rst k).length ≤ 1000 ∧ wrd.take (k + 1) = wrd.take k ++ [wrd.getD k []] := fun k hk => by
    match k, hk with
    | 0, _ => exact ⟨h0, hz.1, rfl⟩
    | 1, _ => exact ⟨h1, hz.2.1, rfl⟩
    | 2, _ => exact ⟨h2, hz.2.2, rfl⟩
  refine EXs_seq ?_
  refine EX_lcl (by kernel_rfl!) (by kernel_rfl!) (by kernel_rfl) (by kernel_rfl) (by kernel_rfl) rfl (fun _ _ => by with_unfolding_all rfl) (by kernel_rfl) ?_
  unfold CMP
  repeat km_tabs pj
  with_reducible refine EVI_val ?_
  repeat km_tabs pj
  refine SLICE_list (Nat.le_of_ble_eq_true rfl) ?_
  refine ITV_list ?_
  refine ⟨fun k zs vars H' => Sub [("lexer", .ref 3)] vars ∧ zs = (wrd.take k).map .str ∧ H' = LX C.B.w.params N (rst k) [] [], ⟨.cons rfl .nil, rfl, rfl⟩, ?_, ?_⟩
  · intro k x zs vars H' hk zz1; refine zz1.elim fun hv zz2 => zz2.elim fun zz3 zz4 => ?_; clear zz2 zz1; (first | subst zz3 | cases zz3); (first | subst zz4 | cases zz4)
    have hk3 : k < 3 := lt_of_get hk
    refine (hrd k hk3).elim fun r1 zz1 => zz1.elim fun r2 r3 => ?_; clear zz1
    repeat km_tabs pj
    with_reducible refine TST_nil ?_
    repeat km_tabs pj
    refine CG_nil (by rw [List.length_map, List.length_take]; lia) ?_
    refine EV.sub (V0 := [("lexer", .ref 3)]) (hv.upd rfl) ?_
    repeat km_tabs pj
    refine ⟨_, gm_get (by assumption), by kernel_rfl, ?_⟩
    repeat km_tabs pj
    refine tok_read (C := C.hold []) (J := []) G (by km_tabs pj_d) hFH (hFk _) (ar1 (by assumption) (by rfl)) ?_
    rw [r1]
    exact ⟨hv.upd rfl, by rw [r3, List.map_append]; rfl, rfl⟩
  · intro zs v H' zz1; refine zz1.elim fun _ zz2 => zz2.elim fun zz3 zz4 => ?_; clear zz2 zz1; (first | subst zz3 | cases zz3); (first | subst zz4 | cases zz4)
    rw [show wrd.take (pslice (List.map AV.str [lw p0 p1 0, lw p2 p3 1, lw p4 p5 2, [46]]) (some 1) none).length = wrd from rfl, show rst (pslice (List.map AV.str [lw p0 p1 0, lw p2 p3 1, lw p4 p5 2, [46]]) (some 1) none).length = t3 from rfl]
    clear hrd
    repeat km_tabs pj
    with_reducible refine EX_lcl (by kernel_rfl!) (by kernel_rfl!) (by kernel_rfl) (by kernel_rfl) (by kernel_rfl) rfl (fun _ _ => by with_unfolding_all rfl) (by kernel_rfl) ?_
    repeat km_tabs pj
    with_reducible refine EVI_val ?_
    repeat km_tabs pj
    refine ITV_list ?_
    refine ⟨[(trP p0, trP p1), (trP p2, trP p3), (trP p4, trP p5)].map pairAv, rfl, Nat.le_of_ble_eq_true rfl, fun k v hk => ?_, ?_⟩
    · have hw : ∃ a b j, okP a ∧ okP b ∧ j < 3 ∧ v = .str (lw a b j) ∧ ([(trP p0, trP p1), (trP p2, trP p3), (trP p4, trP p5)].map pairAv)[k]? = some (pairAv (trP a, trP b)) := by
        match k, hk with
        | 0, hk => cases hk; exact ⟨p0, p1, 0, hok _ (by simp), hok _ (by simp), by decide, rfl, rfl⟩
        | 1, hk => cases hk; exact ⟨p2, p3, 1, hok _ (by simp), hok _ (by simp), by decide, rfl, rfl⟩
        | 2, hk => cases hk; exact ⟨p4, p5, 2, hok _ (by simp), hok _ (by simp), by decide, rfl, rfl⟩
      refine hw.elim fun a zz1 => zz1.elim fun b zz2 => zz2.elim fun j zz3 => zz3.elim fun oa zz4 => zz4.elim fun ob zz5 => zz5.elim fun hj zz6 => zz6.elim fun zz7 hy => ?_; clear zz6 zz5 zz4 zz3 zz2 zz1; (try clear hw); (first | subst zz7 | cases zz7)
      repeat km_tabs pj
      refine sides_ok (C := C.hold []) G (by km_tabs pj_d) (hFk _) oa.1 oa.2 hj ob.1 ob.2 ?_
      exact ⟨rfl, hy⟩
    repeat km_tabs pj
    with_reducible refine ETs_ocons ?_
    repeat km_tabs pj
    refine SLICE_list (Nat.le_of_ble_eq_true rfl) ?_
    refine OP_ned (n := 1) (.list (Dats.map (g := fun l => Dt.str l) fun l _ => .str l)) (.list (Dats.map (l := [lw p0 p1 0, lw p2 p3 1, lw p4 p5 2]) (f := AV.str) (g := fun l => Dt.str l) fun l _ => .str l)) (cmp_map fun a b => .str a b) (by decide) (fun r hr => ?_)
    have hr0 : r = false := by
      cases r with
      | false => rfl
      | true => exact absurd rfl (hr.mp rfl)
    subst hr0
    repeat km_tabs pj
    with_reducible refine ETs_ocons ?_
    repeat km_tabs pj
    refine EV_list (by kernel_rfl) ?_
    repeat km_tabs pj
    refine SLICE_list (Nat.le_of_ble_eq_true rfl) ?_
    repeat km_tabs pj
    refine SLICE_list (Nat.le_of_ble_eq_true rfl) ?_
    repeat km_tabs pj
    refine SLICE_list (Nat.le_of_ble_eq_true rfl) ?_
    repeat km_tabs pj
    refine ⟨Nat.le_of_ble_eq_true rfl, ?_⟩
    refine OP_ned (n := 3) (.list (Dats.map (g := pairDt) fun r _ => pair_dat r)) (.list (Dats.map (l := [(trP p0, trP p1), (trP p2, trP p3), (trP p4, trP p5)]) (f := pairAv) (g := pairDt) fun r _ => pair_dat r)) (cmp_map cmp_pair) (by decide) (fun r hr => ?_)
    have hr0 : r = false := by
      cases r with
      | false => rfl
      | true => exact absurd rfl (hr.mp rfl)
    subst hr0
    repeat km_tabs pj
    with_reducible refine ETs_onil ?_
    repeat km_tabs pj
    with_reducible refine EVI_val ?_
    repeat km_tabs pj
    refine ITV_list ?_
    refine ⟨[p0, p1, p2, p3, p4, p5].map fun p => .list [.int (tokv p.1 : Int), .int (tokv p.2 : Int)], rfl, Nat.le_of_ble_eq_true rfl, fun k v hk => ?_, ?_⟩
    · rw [List.getElem?_map] at hk
      refine (Option.map_eq_some_iff.mp hk).elim fun p zz1 => zz1.elim fun hp zz2 => ?_; clear zz1; (first | subst zz2 | cases zz2)
      have T := tok_tab G
      obtain ⟨o1, o2⟩ := hok p (List.mem_of_getElem? hp)
      repeat km_tabs pj
      with_reducible refine EVI_val ?_
      repeat km_tabs pj
      refine ITV_str ?_
      refine ⟨[.int (tokv p.1 : Int), .int (tokv p.2 : Int)], rfl, Nat.le_of_ble_eq_true rfl, fun i v hi => ?_, ?_⟩
      · have hc : ∃ c, c < 256 ∧ v = .str [c] ∧ [AV.int (tokv p.1 : Int), .int (tokv p.2 : Int)][i]? = some (.int (tokv c : Int)) := by
          match i, hi with
          | 0, hi => cases hi; exact ⟨p.1, o1.2, rfl, rfl⟩
          | 1, hi => cases hi; exact ⟨p.2, o2.2, rfl, rfl⟩
        obtain ⟨c, c1, rfl, hc⟩ := hc
        repeat km_tabs pj
        refine ⟨_, gm_tab (C := (C.hold []).hold []) G T, by kernel_rfl, ?_⟩
        repeat km_tabs pj
        refine CALL_ord ?_
        repeat km_tabs pj
        refine CALL_tab (C := (C.hold []).hold []) T ?_
        rw [tok_int c1]
        exact ⟨rfl, hc⟩
      · repeat km_tabs pj
        rw [List.getElem?_map, hp]; rfl
    repeat km_tabs pj
    refine OP_ned (n := 2) (.list (Dats.map (g := numDt) fun r _ => num_dat r)) (.list (Dats.map (g := numDt) fun r _ => num_dat r)) (cmp_map cmp_num) (by decide) (fun r hr => ?_)
    have hr0 : r = false := by
      cases r with
      | false => rfl
      | true => exact absurd rfl (hr.mp rfl)
    subst hr0
    refine ⟨_, rfl, if_ff (EXs_nil (seqK_next ?_))⟩
    refine EXs.sub (V0 := [("pairs", .list ([(trP p0, trP p1), (trP p2, trP p3), (trP p4, trP p5)].map pairAv)), ("lexer", .ref 3), ("text", .str text), ("sides", .list ([trP p0, trP p1, trP p2, trP p3, trP p4, trP p5].map Tr.av))]) ?_ ?_
    · exact .cons rfl (.cons rfl (.cons rfl (.cons rfl .nil)))
    · exact q
end
end
section
theorem sum_nat (l : List Int) (h : ∀ x ∈ l, 0 ≤ x ∧ x < 1000000) : ∃ n : Nat, l.sum = (n : Int) ∧ n ≤ l.length * 1000000 := by
  induction l with
  | nil => exact ⟨0, rfl, Nat.zero_le _⟩
  | cons a l ih =>
    refine (ih fun x hx => h x (List.mem_cons_of_mem _ hx)).elim fun n zz1 => zz1.elim fun e hn => ?_; clear zz1
    have ha := h a List.mem_cons_self
    refine ⟨a.toNat + n, ?_, ?_⟩
    · rw [List.sum_cons, e]; lia
    · rw [List.length_cons, Nat.succ_mul]; omega
noncomputable def letP (h : Nat) : Nat × Nat := (h % 255 + 1, h / 255 % 255 + 1)
theorem letP_fst {h : Nat} : ((h : Int).fmod 255 + 1) = ((letP h).1 : Int) := by
  rw [Int.fmod_eq_emod_of_nonneg _ (by decide)]; unfold letP; dsimp only; exact rfl
theorem letP_snd {h : Nat} : (((h : Int).fdiv 255).fmod 255 + 1) = ((letP h).2 : Int) := by
  rw [Int.fmod_eq_emod_of_nonneg _ (by decide), Int.fdiv_eq_ediv_of_nonneg _ (by decide)]; unfold letP; dsimp only; exact rfl
theorem gm_split {l : List Nat} : GETM C H (.str l) (Str.ofString "split") (.builtin "str.split") := GETM_b .str PySem.F.plainAttrs_str PySem.F.slot_str_split PySem.F.type_str_split
section
variable {C : Cx} {H : List AO}
theorem law1 (G : GKB C.B) (hd : 10 < C.d) {a : Addr} {vs : Array Value} {ns : List Int} (hL : C.B.h0.IsList a vs) (hI : IntsAre vs.toList ns) (hn : ns.length ≤ 63)
    {Qs : AF → Vars → List AO → Prop} (q : ∀ (ps : List (Nat × Nat)) (h : Nat), (∀ p ∈ ps, okP p) → ps.length = 6 → h ≤ 70000000 → ∀ hl : List Nat, hl.length = 7 → hl[6]? = some h →
      EXs C (lawSc C.B.w.params) [("heaps", .list (hl.map fun (n : Nat) => AV.int (n : Int))), ("letters", letAv ps), ("signs", .list (signsL.map .str))] [.tab0 155] (lawBd C.B.w.params 3) Qs) :
    EXs C (lawSc C.B.w.params) [("script", .val (.ref a))] [.tab0 155] (lawBd C.B.w.params 0) Qs := by
  unfold lawBd lawSc
  conv => arg 2; whnf
  conv => arg 5; whnf
  refine EXs_seq ?_
  refine EX_lc (by kernel_rfl) (by kernel_rfl) ?_
  refine EV_comp (by kernel_rfl) rfl (fun _ _ => by with_unfolding_all rfl) (tgs (by kernel_rfl)) ?_
  unfold CMP
  repeat km_tabs pj
  with_reducible refine EVI_en (GW.ok (by assumption)) (by kernel_rfl) (fun _ => by with_unfolding_all rfl) ?_
  repeat km_tabs pj
  refine EV_list (by kernel_rfl) ?_
  repeat km_tabs pj
  refine CALL_lenscript hL hI (by exact ar1 (by assumption) (by rfl)) ?_
  refine ⟨Nat.le_of_ble_eq_true rfl, ?_⟩
  repeat km_tabs pj
  refine ⟨fun k zs vars H' => H' = [.tab0 155] ∧ Sub [("script", .val (.ref a))] vars ∧ ∃ hs : List Nat, zs = hs.map (fun (n : Nat) => AV.int (n : Int)) ∧ hs.length = k ∧ ∀ h ∈ hs, h ≤ 70000000, ⟨rfl, .cons rfl .nil, [], rfl, rfl, by simp⟩, ?_, ?_⟩
  · intro k x zs vars H' hk zz1; refine zz1.elim fun zz2 zz3 => zz3.elim fun hv zz4 => zz4.elim fun hs zz5 => zz5.elim fun zz6 zz7 => zz7.elim fun zz8 hb => ?_; clear zz7 zz5 zz4 zz3 zz1; (first | subst zz2 | cases zz2); (first | subst zz6 | cases zz6); (first | subst zz8 | cases zz8)
    have hk7 : hs.length < 7 := lt_of_get hk
    have hx : ∃ st : Nat, x = .tup [.int ((hs.length : Nat) : Int), .int (st : Int)] ∧ st ≤ 65024 := by
      generalize hs.length = k at hk hk7
      match k, hk with
      | 0, hk => cases hk; exact ⟨509, rfl, by decide⟩
      | 1, hk => cases hk; exact ⟨0, rfl, by decide⟩
      | 2, hk => cases hk; exact ⟨255, rfl, by decide⟩
      | 3, hk => cases hk; exact ⟨65024, rfl, by decide⟩
      | 4, hk => cases hk; exact ⟨256, rfl, by decide⟩
      | 5, hk => cases hk; exact ⟨254, rfl, by decide⟩
      | 6, hk => cases hk; exact ⟨ns.length, rfl, by exact ar1 (by assumption) (by rfl)⟩
    refine hx.elim fun st zz1 => zz1.elim fun zz2 hst => ?_; clear zz1; (try clear hx); (first | subst zz2 | cases zz2)
    repeat km_tabs pj
    with_reducible refine AS_tuple (by kernel_rfl) ?_
    repeat km_tabs pj
    with_reducible refine ASs_nil ?_
    repeat km_tabs pj
    with_reducible refine TST_nil ?_
    repeat km_tabs pj
    refine CG_nil (by rw [List.length_map]; exact ar4 (by assumption) (by rfl)) ?_
    refine EV.sub (V0 := [("script", .val (.ref a)), ("k", .int ((hs.length : Nat) : Int)), ("start", .int (st : Int))]) (.cons ((hv.upd rfl).upd rfl _ _ rfl) (.cons (by rw [lookup_upd_ne (by decide), upd_self]) (.cons (upd_self _ _ _) .nil))) ?_
    repeat km_tabs pj
    with_reducible refine EVI_val ?_
    repeat km_tabs pj
    refine SLICE_script hL hI (by decide) (by exact ar1 (by assumption) (by rfl)) (fun ms hms => ?_)
    refine ITV_list ?_
    refine ⟨(ms.map fun x => x.fmod 1000000).map AV.int, by simp, by simp; lia, fun j v hj => ?_, ?_⟩
    · rw [List.getElem?_map] at hj
      refine (Option.map_eq_some_iff.mp hj).elim fun m zz1 => zz1.elim fun hm zz2 => ?_; clear zz1; (first | subst zz2 | cases zz2)
      repeat km_tabs pj
      refine OP_pow (by decide) (by decide) ?_
      refine OP_mod (by decide) ?_
      exact ⟨rfl, by rw [List.getElem?_map, List.getElem?_map, hm]; rfl⟩
    · repeat km_tabs pj
      refine CALL_sum .imm ?_
      obtain ⟨n, en, hn2⟩ := sum_nat (ms.map fun x => x.fmod 1000000) (fun x hx => by
        refine (List.mem_map.mp hx).elim fun y zz1 => zz1.elim fun _ zz2 => ?_; clear zz1; (first | subst zz2 | cases zz2)
        rw [Int.fmod_eq_emod_of_nonneg _ (by decide)]
        exact ⟨Int.emod_nonneg _ (by decide), Int.emod_lt_of_pos _ (by decide)⟩)
      rw [List.length_map] at hn2
      rw [en]
      repeat km_tabs pj
      refine ⟨(hv.upd rfl).upd rfl, hs ++ [st + n], ?_, by simp, fun h hh => ?_⟩
      · rw [List.map_append]; rfl
      · rcases List.mem_append.mp hh with h1 | h1
        · exact hb h h1
        · rw [List.mem_singleton] at h1; lia
  · intro zs v H' zz1; refine zz1.elim fun zz2 zz3 => zz3.elim fun _ zz4 => zz4.elim fun hs zz5 => zz5.elim fun zz6 zz7 => zz7.elim fun hlen hb => ?_; clear zz7 zz5 zz4 zz3 zz1; (first | subst zz2 | cases zz2); (first | subst zz6 | cases zz6)
    have hlen : hs.length = 7 := hlen
    refine EXs_seq ?_
    refine EX_assign' (fun env hE => by with_unfolding_all rfl) (by kernel_rfl) ?_
    refine EV_methW (by assumption) (by kernel_rfl) (fun _ => by with_unfolding_all rfl) ?_
    refine EV_str (l := [40, 32, 41, 32, 91, 32, 93, 32, 58, 32, 44, 32, 59, 32, 43, 32, 45, 32, 42, 32, 47, 32, 124, 32, 38, 32, 60, 32, 62, 32, 61, 32, 46, 32, 37, 32, 123, 32, 125, 32, 61, 61, 32, 33, 61, 32, 60, 61, 32, 62, 61, 32, 126, 32, 94, 32, 60, 60, 32, 62, 62, 32, 42, 42, 32, 43, 61, 32, 45, 61, 32, 42, 61, 32, 47, 61, 32, 37, 61, 32, 38, 61, 32, 124, 61, 32, 94, 61, 32, 60, 60, 61, 32, 62, 62, 61, 32, 42, 42, 61, 32, 47, 47, 32, 47, 47, 61, 32, 64, 32, 64, 61, 32, 45, 62, 32, 46, 46, 46, 32, 58, 61, 32, 33]) (by kernel_rfl) ?_
    refine ⟨_, gm_split, by kernel_rfl, ?_⟩
    repeat km_tabs pj
    refine CALL_split (ls := signsL) (by kernel_rfl) (by kernel_rfl) (by kernel_rfl) (by kernel_rfl) (by decide) (by decide) ?_
    repeat km_tabs pj
    with_reducible refine EX_lc (by kernel_rfl!) (by kernel_rfl) ?_
    repeat km_tabs pj
    with_reducible refine EVI_val ?_
    repeat km_tabs pj
    refine SLICE_list (by rw [List.length_map]; exact ar5 (by assumption) (by rfl)) ?_
    rw [show (6 : Int) = ((6 : Nat) : Int) from rfl, pslice_to, ← List.map_take]
    have hb6 : ∀ h ∈ hs.take 6, h ≤ 70000000 := fun h hh => hb h (List.mem_of_mem_take hh)
    have hl6 : (hs.take 6).length = 6 := by rw [List.length_take]; lia
    generalize hs.take 6 = h6 at hb6 hl6 ⊢
    refine ITV_list ?_
    refine ⟨(h6.map letP).map fun p => .str [p.1, p.2], by simp, by simp; exact ar5 (by assumption) (by rfl), fun j v hj => ?_, ?_⟩
    · rw [List.getElem?_map] at hj
      refine (Option.map_eq_some_iff.mp hj).elim fun m zz1 => zz1.elim fun hm zz2 => ?_; clear zz1; (first | subst zz2 | cases zz2)
      have hm2 := hb6 m (List.mem_of_getElem? hm)
      repeat km_tabs pj
      refine OP_mod (by decide) ?_
      repeat km_tabs pj
      rw [letP_fst]
      refine CALL_chr (by exact ai1) (by unfold letP; dsimp only; omega) ?_
      repeat km_tabs pj
      refine OP_div (by decide) (noPy (by decide)) ?_
      repeat km_tabs pj
      refine OP_mod (by decide) ?_
      repeat km_tabs pj
      rw [letP_snd]
      refine CALL_chr (by exact ai1) (by unfold letP; dsimp only; omega) ?_
      refine OP_cat (by simp) ?_
      exact ⟨rfl, by rw [List.getElem?_map, List.getElem?_map, hm]; rfl⟩
    have hok : ∀ p ∈ h6.map letP, okP p := fun p hp => by
      refine (List.mem_map.mp hp).elim fun m zz1 => zz1.elim fun _ zz2 => ?_; clear zz1; (first | subst zz2 | cases zz2)
      unfold okP letP; dsimp only; lia
    have hlp : (h6.map letP).length = 6 := by rw [List.length_map]; exact hl6
    generalize h6.map letP = ps at hok hlp ⊢
    refine seqK_next ?_
    refine EXs.sub (V0 := [("heaps", .list (hs.map fun (n : Nat) => AV.int (n : Int))), ("letters", letAv ps), ("signs", .list (signsL.map .str))]) (.cons rfl (.cons rfl (.cons rfl .nil))) ?_
    refine q ps (hs[6]'(by exact ar13 (by assumption) (by rfl))) hok hlp (hb _ (List.getElem_mem _)) hs hlen (List.getElem?_eq_getElem _)
end
end
section
theorem pslice_last {α : Type} {l : List α} : pslice l none (some (-1)) = l.dropLast := by
  unfold pslice
  simp only [Option.elim_none, Option.elim_some, List.drop_zero, Nat.sub_zero]
  unfold clipAt
  rw [if_pos (by decide), List.dropLast_eq_take]
  congr 1
  have e : -1 + (l.length : Int) = (l.length : Int) - 1 := Int.add_comm _ _
  rw [e, Int.min_eq_left (Int.sub_le_self _ (by decide)), Int.max_comm]
  have := cmx1 l.length 0
  rw [show ((0 : Nat) : Int) = 0 from rfl] at this
  rw [this, Int.toNat_natCast, Nat.max_eq_left (Nat.zero_le _)]
theorem nth_filter (p : Nat × Nat) {j : Nat} (hj : j < 3) : ([tokv p.1, tokv p.2].filter fun n => decide (n % 3 = j)).length = (trP p).nth j := by
  unfold trP
  have h1 : tokv p.1 % 3 < 3 := Nat.mod_lt _ (by decide)
  have h2 : tokv p.2 % 3 < 3 := Nat.mod_lt _ (by decide)
  simp only [List.filter_cons, List.filter_nil]
  generalize tokv p.1 % 3 = a at h1 ⊢
  generalize tokv p.2 % 3 = b at h2 ⊢
  have : a = 0 ∨ a = 1 ∨ a = 2 := by exact ar25 (by assumption)
  have : b = 0 ∨ b = 1 ∨ b = 2 := by exact ar25 (by assumption)
  have : j = 0 ∨ j = 1 ∨ j = 2 := by exact ar25 (by assumption)
  rcases ‹a = 0 ∨ a = 1 ∨ a = 2› with rfl | rfl | rfl <;> rcases ‹b = 0 ∨ b = 1 ∨ b = 2› with rfl | rfl | rfl <;> rcases ‹j = 0 ∨ j = 1 ∨ j = 2› with rfl | rfl | rfl <;> rfl
noncomputable def signChk (c : Nat) : Bool := (if signsL.contains [c] then signsL.idxOf [c] + 7 == tokv c && signsL[signsL.idxOf [c]]? == some [c] else tokv c == c) && (List.range (signsL.idxOf [c])).all fun m => signsL[m]? != some [c]
theorem sign_chk : (List.range 256).all signChk = true := by decide +kernel
theorem sign_tab {c : Nat} (h : c < 256) : ([c] ∈ signsL → signsL.idxOf [c] + 7 = tokv c ∧ signsL[signsL.idxOf [c]]? = some [c]) ∧ ([c] ∉ signsL → tokv c = c) ∧ ∀ m, m < signsL.idxOf [c] → signsL[m]? ≠ some [c] := by
  have := List.all_eq_true.mp sign_chk c (List.mem_range.mpr h)
  unfold signChk at this
  rw [Bool.and_eq_true] at this
  refine this.elim fun h1 h2 => ?_; (try clear this)
  refine ⟨fun hm => ?_, fun hm => ?_, fun m hm => ?_⟩
  · rw [if_pos (by simpa using hm)] at h1; simpa using h1
  · rw [if_neg (by simpa using hm)] at h1; simpa using h1
  · have := List.all_eq_true.mp h2 m (List.mem_range.mpr hm); simpa using this
theorem gm_index {H : List AO} {C : Cx} {xs : List AV} : GETM C H (.list xs) (Str.ofString "index") (.builtin "list.index") := GETM_b .list PySem.F.plainAttrs_list PySem.F.slot_list_index PySem.F.type_list_index
section
variable {C : Cx} {H : List AO}
theorem sides_ex (G : GKB C.B) (hd : 10 < C.d) {ps : List (Nat × Nat)} (hok : ∀ p ∈ ps, okP p) (hlp : ps.length = 6) {hl : List Nat}
    {Qs : AF → Vars → List AO → Prop} (q : EXs C (lawSc C.B.w.params) [("heaps", .list (hl.map fun (n : Nat) => AV.int (n : Int))), ("letters", letAv ps), ("numbers", numAv ps), ("sides", .list ((ps.map trP).map Tr.av))] H (lawBd C.B.w.params 5) Qs) :
    EXs C (lawSc C.B.w.params) [("heaps", .list (hl.map fun (n : Nat) => AV.int (n : Int))), ("letters", letAv ps), ("signs", .list (signsL.map .str))] H (lawBd C.B.w.params 3) Qs := by
  unfold lawBd lawSc
  conv => arg 2; whnf
  conv => arg 5; whnf
  repeat km_tabs pj
  with_reducible refine EX_lcl (by kernel_rfl!) (by kernel_rfl!) (by kernel_rfl) (by kernel_rfl) (by kernel_rfl) rfl (fun _ _ => by with_unfolding_all rfl) (by kernel_rfl) ?_
  repeat km_tabs pj
  with_reducible refine EVI_val ?_
  repeat km_tabs pj
  refine ITV_list ?_
  refine ⟨ps.map fun p => .list [.int (tokv p.1 : Int), .int (tokv p.2 : Int)], by simp, by simp; exact ar5 (by assumption) (by rfl), fun j v hj => ?_, ?_⟩
  · rw [List.getElem?_map] at hj
    refine (Option.map_eq_some_iff.mp hj).elim fun p zz1 => zz1.elim fun hp zz2 => ?_; clear zz1; (first | subst zz2 | cases zz2)
    refine (hok p (List.mem_of_getElem? hp)).elim fun o1 o2 => ?_
    repeat km_tabs pj
    with_reducible refine EVI_val ?_
    repeat km_tabs pj
    refine ITV_str ?_
    refine ⟨[.int (tokv p.1 : Int), .int (tokv p.2 : Int)], rfl, Nat.le_of_ble_eq_true rfl, fun i v hi => ?_, ?_⟩
    · have hc : ∃ c, c < 256 ∧ 0 < c ∧ v = .str [c] ∧ [AV.int (tokv p.1 : Int), .int (tokv p.2 : Int)][i]? = some (.int (tokv c : Int)) := by
        match i, hi with
        | 0, hi => cases hi; exact ⟨p.1, o1.2, o1.1, rfl, rfl⟩
        | 1, hi => cases hi; exact ⟨p.2, o2.2, o2.1, rfl, rfl⟩
      obtain ⟨c, c1, c0, rfl, hc⟩ := hc
      repeat km_tabs pj
      with_reducible refine EV_ifexp ?_
      repeat km_tabs pj
      obtain ⟨s1, s2, s3⟩ := sign_tab c1
      refine OP_ind (n := 0) (.str [c]) (.list (Dats.map (g := fun l => Dt.str l) fun l _ => .str l)) (fun y hy => by
        obtain ⟨l, _, rfl⟩ := List.mem_map.mp hy
        exact .str _ _) (by decide) (fun r hr => ?_)
      cases r with
      | true =>
        have hm : [c] ∈ signsL := by
          obtain ⟨l, h1, h2⟩ := List.mem_map.mp (hr.mp rfl)
          cases h2; exact h1
        repeat km_tabs pj
        refine ⟨_, gm_index, by kernel_rfl, ?_⟩
        repeat km_tabs pj
        obtain ⟨g1, g2⟩ := s1 hm
        refine CALL_index g2 s3 (by decide) ?_
        repeat km_tabs pj
        rw [show ((signsL.idxOf [c] : Nat) : Int) + 7 = (tokv c : Int) by lia]
        exact hc
      | false =>
        have hm : [c] ∉ signsL := fun h => by
          have := hr.mpr (List.mem_map_of_mem h)
          cases this
        repeat km_tabs pj
        refine CALL_ord ?_
        rw [s2 hm] at hc
        exact ⟨rfl, hc⟩
    · repeat km_tabs pj
      rw [List.getElem?_map, hp]; rfl
  · repeat km_tabs pj
    with_reducible refine EX_lcl (by kernel_rfl!) (by kernel_rfl!) (by kernel_rfl) (by kernel_rfl) (by kernel_rfl) rfl (fun _ _ => by with_unfolding_all rfl) (by kernel_rfl) ?_
    repeat km_tabs pj
    with_reducible refine EVI_val ?_
    repeat km_tabs pj
    refine ITV_list ?_
    refine ⟨(ps.map trP).map Tr.av, by simp, by simp; exact ar5 (by assumption) (by rfl), fun k v hk => ?_, ?_⟩
    · rw [List.getElem?_map] at hk
      refine (Option.map_eq_some_iff.mp hk).elim fun p zz1 => zz1.elim fun hp zz2 => ?_; clear zz1; (first | subst zz2 | cases zz2)
      repeat km_tabs pj
      with_reducible refine EVI_range1 (GW.ok (by assumption)) (by kernel_rfl) (fun _ => by with_unfolding_all rfl) ?_
      repeat km_tabs pj
      refine ⟨by decide, [.int ((trP p).a : Int), .int ((trP p).b : Int), .int ((trP p).c : Int)], rfl, Nat.le_of_ble_eq_true rfl, fun j v hj => ?_, ?_⟩
      · refine (rng_get hj).elim fun zz1 hj' => ?_; (first | subst zz1 | cases zz1)
        have hj' : j < 3 := hj'
        have hn := nth_filter p hj'
        have hy : [AV.int ((trP p).a : Int), .int ((trP p).b : Int), .int ((trP p).c : Int)][j]? = some (.int ((trP p).nth j : Int)) := by
          have := bump_get (trP p) hj'
          simpa using this
        rw [show (0 : Int) + (j : Nat) = ((j : Nat) : Int) by exact Int.add_comm _ _]
        repeat km_tabs pj
        with_reducible refine CMP_pure (by kernel_rfl) ?_
        repeat km_tabs pj
        with_reducible refine EVI_val ?_
        repeat km_tabs pj
        refine ITV_list ?_
        refine ⟨fun k => (([tokv p.1, tokv p.2].take k).filter fun n => decide (n % 3 = j)).map fun (n : Nat) => AV.int (n : Int), rfl, fun k _ => by
          have := List.length_filter_le (fun n : Nat => decide (n % 3 = j)) ([tokv p.1, tokv p.2].take k)
          rw [List.length_take] at this; rw [List.length_map]; simp at this; lia, fun i v hi => ?_, ?_⟩
        · have hm : ∃ m : Nat, v = .int (m : Int) ∧ [tokv p.1, tokv p.2][i]? = some m := by
            match i, hi with
            | 0, hi => cases hi; exact ⟨_, rfl, rfl⟩
            | 1, hi => cases hi; exact ⟨_, rfl, rfl⟩
          obtain ⟨m, rfl, hm⟩ := hm
          dsimp only
          rw [take_succ_get hm, List.filter_append, List.map_append, List.filter_cons]
          repeat km_tabs pj
          with_reducible refine TST_one ?_
          repeat km_tabs pj
          refine OP_mod (by decide) ?_
          rw [Int.fmod_eq_emod_of_nonneg _ (by decide)]
          repeat km_tabs pj
          with_reducible refine OP_eqi ?_
          repeat km_tabs pj
          refine if_bool (fun z => ?_) (fun z => ?_)
          · have z' : m % 3 = j := by simp at z; exact ai4 (by assumption)
            repeat km_tabs pj
            rw [decide_eq_true z']; rfl
          · have z' : ¬ m % 3 = j := by simp at z; exact ai20 (by assumption)
            rw [decide_eq_false z']; simp
        · dsimp only
          rw [show [tokv p.1, tokv p.2].take ([AV.int (tokv p.1 : Int), .int (tokv p.2 : Int)]).length = [tokv p.1, tokv p.2] from rfl]
          refine CALL_len .imm (by rw [List.length_map]; have := List.length_filter_le (fun n : Nat => decide (n % 3 = j)) [tokv p.1, tokv p.2]; exact Nat.le_trans this (Nat.le_of_ble_eq_true rfl)) ?_
          rw [List.length_map, hn]
          exact ⟨rfl, hy⟩
      · repeat km_tabs pj
        rw [List.getElem?_map, List.getElem?_map, hp]; rfl
    · refine seqK_next (EXs.sub ?_ q)
      exact .cons rfl (.cons rfl (.cons rfl (.cons rfl .nil)))
end
end
section
section
variable {C : Cx}
noncomputable def bareB (h k : Nat) : Bool := (h + k) % 2 == 1
noncomputable def blankB (h k : Nat) : Nat := [13, 10, 9, 32].getD ((h / 2 + k) % 4) 32
theorem blank_ws (h k : Nat) : wsp (blankB h k) = true := by
  have : (h / 2 + k) % 4 < 4 := Nat.mod_lt _ (by decide)
  unfold blankB
  generalize (h / 2 + k) % 4 = j at this ⊢
  match j, this with
  | 0, _ => rfl
  | 1, _ => rfl
  | 2, _ => rfl
  | 3, _ => rfl
theorem words_ex (G : GKB C.B) (hd : 10 < C.d) (hF : C.F = []) {p0 p1 p2 p3 p4 p5 : Nat × Nat} (hok : ∀ p ∈ [p0, p1, p2, p3, p4, p5], okP p) {hl : List Nat} {h : Nat} (h7 : hl.length = 7) (h6 : hl[6]? = some h) (hz : h ≤ 70000000)
    {Qs : AF → Vars → List AO → Prop} (q : ∀ text t1 t2 t3, tokT text = (lw p0 p1 0, t1) → tokT t1 = (lw p2 p3 1, t2) → tokT t2 = (lw p4 p5 2, t3) → tokT t3 = ([46], []) → text.length ≤ 1000 ∧ t1.length ≤ 1000 ∧ t2.length ≤ 1000 → t3.length ≤ 1000 →
      EXs C (lawSc C.B.w.params) [("lexer", .ref 3), ("text", .str text), ("sides", .list ([trP p0, trP p1, trP p2, trP p3, trP p4, trP p5].map Tr.av)), ("words", .list ([lw p0 p1 0, lw p2 p3 1, lw p4 p5 2, [46]].map .str)), ("letters", letAv [p0, p1, p2, p3, p4, p5]), ("numbers", numAv [p0, p1, p2, p3, p4, p5])]
        (LX C.B.w.params (1 + (text.count 10 : Nat)) text [] []) (lawBd C.B.w.params 9) Qs) :
    EXs C (lawSc C.B.w.params) [("heaps", .list (hl.map fun (n : Nat) => AV.int (n : Int))), ("letters", letAv [p0, p1, p2, p3, p4, p5]), ("numbers", numAv [p0, p1, p2, p3, p4, p5]), ("sides", .list (([p0, p1, p2, p3, p4, p5].map trP).map Tr.av))] [.tab0 155] (lawBd C.B.w.params 5) Qs := by
  unfold lawBd lawSc
  conv => arg 2; whnf
  conv => arg 5; whnf
  refine EXs_seq ?_
  refine EX_assign' (fun env hE => by with_unfolding_all rfl) (by kernel_rfl) ?_
  repeat km_tabs pj
  with_reducible refine EVI_range1 (GW.ok (by assumption)) (by kernel_rfl) (fun _ => by with_unfolding_all rfl) ?_
  repeat km_tabs pj
  refine ⟨by decide, [lw p0 p1 0, lw p2 p3 1, lw p4 p5 2].map AV.str, rfl, Nat.le_of_ble_eq_true rfl, fun k v hk => ?_, ?_⟩
  · refine (rng_get hk).elim fun zz1 hk' => ?_; (first | subst zz1 | cases zz1)
    have hk' : k < 3 := hk'
    have hw : ∃ a b, ([p0, p1, p2, p3, p4, p5].map fun p => AV.str [p.1, p.2])[2 * k]? = some (.str [a.1, a.2]) ∧ ([p0, p1, p2, p3, p4, p5].map fun p => AV.str [p.1, p.2])[2 * k + 1]? = some (.str [b.1, b.2]) ∧ ([lw p0 p1 0, lw p2 p3 1, lw p4 p5 2].map AV.str)[k]? = some (.str (lw a b k)) := by
      match k, hk' with
      | 0, _ => exact ⟨p0, p1, rfl, rfl, rfl⟩
      | 1, _ => exact ⟨p2, p3, rfl, rfl, rfl⟩
      | 2, _ => exact ⟨p4, p5, rfl, rfl, rfl⟩
    refine hw.elim fun a zz1 => zz1.elim fun b zz2 => zz2.elim fun w1 zz3 => zz3.elim fun w2 w3 => ?_; clear zz3 zz2 zz1; (try clear hw)
    repeat km_tabs pj
    with_reducible refine OP_mul (.inl (by decide)) ?_
    repeat km_tabs pj
    refine SUB_list (by exact ai1 ) (v := .str [a.1, a.2]) (by rw [show (2 * (0 + (k : Int))).toNat = 2 * k by lia]; exact w1) (Nat.le_of_ble_eq_true rfl) ?_
    repeat km_tabs pj
    refine CALL_chr (by exact ai1 ) (by lia) ?_
    refine OP_cat (by simp) ?_
    repeat km_tabs pj
    with_reducible refine OP_mul (.inl (by decide)) ?_
    repeat km_tabs pj
    refine SUB_list (by exact ai1 ) (v := .str [b.1, b.2]) (by rw [show (2 * (0 + (k : Int)) + 1).toNat = 2 * k + 1 by lia]; exact w2) (Nat.le_of_ble_eq_true rfl) ?_
    refine OP_cat (by simp) ?_
    repeat km_tabs pj
    refine CALL_chr (by decide) (by decide) ?_
    refine OP_cat (by simp) ?_
    rw [show (256 + (0 + (k : Int))).toNat = 256 + k by lia]
    exact ⟨rfl, w3⟩
  repeat km_tabs pj
  refine EV_list (by kernel_rfl) ?_
  repeat km_tabs pj
  refine ⟨Nat.le_of_ble_eq_true rfl, ?_⟩
  refine OP_addl .imm .imm (Nat.le_of_ble_eq_true rfl) ?_
  repeat km_tabs pj
  with_reducible refine EX_lcl (by kernel_rfl!) (by kernel_rfl!) (by kernel_rfl) (by kernel_rfl) (by kernel_rfl) rfl (fun _ _ => by with_unfolding_all rfl) (by kernel_rfl) ?_
  repeat km_tabs pj
  with_reducible refine EVI_range1 (GW.ok (by assumption)) (by kernel_rfl) (fun _ => by with_unfolding_all rfl) ?_
  repeat km_tabs pj
  let ws : List (List Nat) := [lw p0 p1 0, lw p2 p3 1, lw p4 p5 2, [46]]
  obtain ⟨t1, t2, t3, g0, g1, g2, g3, g4, g5, g6, g7⟩ := page (w0 := lw p0 p1 0) (w1 := lw p2 p3 1) (w2 := lw p4 p5 2) (w3 := [46]) (b0 := bareB h 0) (b1 := bareB h 1) (b2 := bareB h 2) (b3 := bareB h 3) (c0 := blankB h 0) (c1 := blankB h 1) (c2 := blankB h 2) (c3 := blankB h 3)
    (by simp [lw]) (by simp [lw]) (by simp [lw]) (by simp) (blank_ws _ _) (blank_ws _ _) (blank_ws _ _) (blank_ws _ _) (Nat.le_of_ble_eq_true rfl) (Nat.le_of_ble_eq_true rfl) (Nat.le_of_ble_eq_true rfl) (Nat.le_of_ble_eq_true rfl)
  have hwt : ∀ k, k < 4 → [writtenT (lw p0 p1 0) (bareB h 0) [blankB h 0], writtenT (lw p2 p3 1) (bareB h 1) [blankB h 1], writtenT (lw p4 p5 2) (bareB h 2) [blankB h 2], writtenT [46] (bareB h 3) [blankB h 3]][k]? = some (writtenT (ws.getD k []) (bareB h k) [blankB h k]) := fun k hk => by
    match k, hk with
    | 0, _ => rfl
    | 1, _ => rfl
    | 2, _ => rfl
    | 3, _ => rfl
  have hls : [writtenT (lw p0 p1 0) (bareB h 0) [blankB h 0], writtenT (lw p2 p3 1) (bareB h 1) [blankB h 1], writtenT (lw p4 p5 2) (bareB h 2) [blankB h 2], writtenT [46] (bareB h 3) [blankB h 3]].length = 4 := rfl
  generalize [writtenT (lw p0 p1 0) (bareB h 0) [blankB h 0], writtenT (lw p2 p3 1) (bareB h 1) [blankB h 1], writtenT (lw p4 p5 2) (bareB h 2) [blankB h 2], writtenT [46] (bareB h 3) [blankB h 3]] = ls at g0 g4 hwt hls ⊢
  refine ⟨by decide, ls.map AV.str, by rw [List.length_map, hls]; rfl, by rw [List.length_map, hls]; decide, fun k v hk => ?_, ?_⟩
  · refine (rng_get hk).elim fun zz1 hk' => ?_; (first | subst zz1 | cases zz1)
    have hk' : k < 4 := hk'
    have hw : (([lw p0 p1 0, lw p2 p3 1, lw p4 p5 2].map AV.str) ++ [AV.str [46]])[k]? = some (.str (ws.getD k [])) ∧ (ws.getD k []).length ≤ 6 := by
      match k, hk' with
      | 0, _ => exact ⟨rfl, Nat.le_of_ble_eq_true rfl⟩
      | 1, _ => exact ⟨rfl, Nat.le_of_ble_eq_true rfl⟩
      | 2, _ => exact ⟨rfl, Nat.le_of_ble_eq_true rfl⟩
      | 3, _ => exact ⟨rfl, Nat.le_of_ble_eq_true rfl⟩
    refine hw.elim fun w1 w2 => ?_; (try clear hw)
    have hh : (hl.map fun (n : Nat) => AV.int (n : Int))[Int.toNat 6]? = some (.int (h : Int)) := by
      rw [List.getElem?_map, show hl[Int.toNat 6]? = some h from h6]; rfl
    repeat km_tabs pj
    refine SUB_list (by exact ai1 ) (v := .str (ws.getD k [])) (by rw [show (0 + (k : Int)).toNat = k by exact Nat.add_comm _ _]; exact w1) (Nat.le_of_ble_eq_true rfl) ?_
    have hwk := hwt k hk'
    generalize ws.getD k [] = wk at w2 hwk ⊢
    repeat km_tabs pj
    with_reducible refine EV_cmp (by kernel_rfl) ?_
    repeat km_tabs pj
    refine SUB_list (by decide) hh (by rw [List.length_map]; exact ar5 (by assumption) (by rfl)) ?_
    repeat km_tabs pj
    refine OP_mod (by decide) ?_
    repeat km_tabs pj
    with_reducible refine OP_eqi ?_
    repeat km_tabs pj
    rw [show (((h : Int) + (0 + (k : Int))).fmod 2 == 1) = bareB h k by
      rw [Int.fmod_eq_emod_of_nonneg _ (by decide), Bool.eq_iff_iff]; unfold bareB; simp; lia]
    refine SUB_list (by decide) hh (by rw [List.length_map]; exact ar5 (by assumption) (by rfl)) ?_
    repeat km_tabs pj
    refine OP_div (by decide) (noPy (by decide)) ?_
    repeat km_tabs pj
    refine OP_mod (by decide) ?_
    have ei : ((h : Int).fdiv 2 + (0 + (k : Int))).fmod 4 = (((h / 2 + k) % 4 : Nat) : Int) := by
      rw [Int.fmod_eq_emod_of_nonneg _ (by decide), Int.fdiv_eq_ediv_of_nonneg _ (by decide)]; lia
    rw [ei]
    refine SUB_str (by exact ai1 ) (c := blankB h k) (by
      have hj : (h / 2 + k) % 4 < 4 := Nat.mod_lt _ (by decide)
      unfold blankB
      rw [Int.toNat_natCast]
      generalize (h / 2 + k) % 4 = j at hj ⊢
      match j, hj with
      | 0, _ => rfl
      | 1, _ => rfl
      | 2, _ => rfl
      | 3, _ => rfl) (Nat.le_of_ble_eq_true rfl) ?_
    repeat km_tabs pj
    refine written_ok (C := C.hold []) (by assumption) (by km_tabs pj_d) (ar1 (by assumption) (by rfl)) (Nat.le_of_ble_eq_true rfl) ?_
    exact ⟨rfl, by rw [List.getElem?_map, hwk]; rfl⟩
  have hsum : (ls.map List.length).sum ≤ 100 := by rw [← List.length_flatten]; exact g4
  repeat km_tabs pj
  refine ⟨_, gm_join, by kernel_rfl, ?_⟩
  repeat km_tabs pj
  refine CALL_join .imm (by simp only [List.length_nil, Nat.mul_zero]; exact ar1 (by assumption) (by rfl)) ?_
  rw [inter_nil]
  repeat km_tabs pj
  with_reducible refine EV_neg' ?_
  repeat km_tabs pj
  refine SLICE_str (ar1 (by assumption) (by rfl)) ?_
  rw [pslice_last]
  have hlen : ls.flatten.dropLast.length ≤ 1000 := by rw [List.length_dropLast]; exact as28 (by assumption) (by rfl)
  generalize ls.flatten.dropLast = text at g0 hlen ⊢
  clear g4 hwt hsum hls
  repeat km_tabs pj
  refine CALL_lists (ar1 (by assumption) (by rfl)) ?_
  repeat km_tabs pj
  refine stream_ok (C := C) (i := 0) (H := [.tab0 155] ++ [.list (signs text)]) G (ar7 (by assumption) (by rfl)) rfl (fun hi => by rw [hF] at hi; cases hi) ?_
  repeat km_tabs pj
  refine lexer_ok (C := C) G (ar7 (by assumption) (by rfl)) (fun i hi => by rw [hF] at hi; cases hi) ?_
  refine seqK_next (EXs.sub ?_ (q text t1 t2 t3 g0 g1 g2 g3 ⟨hlen, g5, g6⟩ g7))
  exact .cons rfl (.cons rfl (.cons rfl (.cons rfl (.cons rfl (.cons rfl .nil)))))
end
end
section
theorem said0 : PySem.Challenge.rw_rs0207_02.wellSaid = true := by
  rw [PySem.W.Fast.te9446332074065402090]
  kernel_rfl
set_option maxHeartbeats 8000000 in
theorem holds_of (h : ∀ (B : Base), B.Ok → B.prog = PySem.Challenge.rw_rs0207_02.row.prog → B.K = KB B.w.params → ∀ a vs ns, B.h0.IsList a vs → IntsAre vs.toList ns → ns.length ≤ 63 →
    CODE ⟨B, [], 60⟩ [.tab0 155] (.ref 230) [.val (.ref a)] (fun v H => v = .bool true ∧ ∃ J, H = .opaq :: J)) : PySem.Challenge.rw_rs0207_02.Holds := by
  refine holds_law said0 fun said => holds_open (q := qv) (loose := lv) (Xt := xv) (XP := XL qv []) (Yf := hk.obs) (Ya := hk.val) (YP := hk.says) (N := 5648) left0 (Hook.of hk) (Hook.keeps hk) (fun s e => xl_of s (Bool.and_eq_true_iff.mp e).1) XL.keeps (by rfl) (by rfl) (by rfl) (fun s e => recFacts_of (Bool.and_eq_true_iff.mp e).2) (by rfl) said (by decide +kernel) ⟨rfl, rfl, rfl, rfl, rfl, by decide +kernel⟩ ?hw ?hc
  case hw => w_witness2
  intro w s₀ s₁ mg mb G Y fa o pm cd doc dV kV ho hd hcd hD hmg hg args vals as hpre hlay hrd hwl hlo
  have KX := km_in_of Y
  have hT8 := km_tabs_of Y
  refine Ground.open G ?_
  intro T B D TE TW
  have hT9 : TabsAt ([(159, 155)] : List (Addr × Addr)) s₁.heap := List.forall_mem_cons.mpr ⟨⟨codeHd_of_K (c := 159) (P := 155) KX (by kernel_rfl), hT8 155 (by simp)⟩, fun _ h => nomatch h⟩
  wrow_args hpre hlay hrd hwl hlo
  rename_i ns _ _ _ _ _ _ _ sa svs _ hL ra w1 r0 hI hr hc _
  have hlen : ns.length ≤ 63 := by omega
  have Xg := ghost_K hT9 KX (by kernel_rfl)
  obtain ⟨bm, ob, b1, b2, b3, b4, b5, b6⟩ := T.bmain
  have hbG : bm ≠ mainGlobals := fun q => by
    obtain ⟨o, es, ep, e, hd', _⟩ := T.g
    rw [q, e] at b3; cases b3; rw [hd'] at b6; cases b6
  have hP : s₁.heap.get? 155 = some (tabObj #[]) := hT8 155 (by simp)
  have hbP : bm ≠ 155 := fun q => by rw [q, hP] at b3; cases b3; cases b4
  let Bs : Pj.Base := { prog := PySem.Challenge.rw_rs0207_02.row.prog, w := w, K := KB w.params, h0 := ghostOf s₁.heap [(159, 155)], mg := mg, mb := mb, os := s₁.os }
  have OK : Bs.Ok := {
    inK := Xg
    g := ghost_ns hT9 T.g
    b := ghost_ns hT9 T.b
    nolimit := let ⟨mc, h1, h2⟩ := T.nolimit; ⟨mc, ghost_ns hT9 h1, h2⟩
    sysm := ⟨230, _, by decide, Xg 230 _ (by rfl)⟩
    bimod := ⟨bm, ob, b1, b2, hbG, ghost_ne b3 (by simpa using hbP), b4, b5, b6⟩
    builtins := T.builtins }
  have hfa : fa = 230 := by
    have h1 : mg (Str.ofString "law") = some (.ref 230) := mg_of KX T.g (by kernel_rfl)
    have h2 : mg (Str.ofString "law") = some (.ref fa) := hmg
    rw [h1] at h2; cases h2; rfl
  subst hfa
  have R : Rep Bs [155] [] [.tab0 155] s₁ := {
    len := rfl
    nodup := by simp
    obj := fun i o a e1 e2 => by
      cases i with
      | zero => simp at e1 e2; subst e1 e2; exact .tab0 rfl hP
      | succ i => simp at e1
    base := fun a o e => of_hideAll _ e
    sep := fun a q => by
      rcases q with q | q
      · exact hideAll_none _ (by simpa using q)
      · cases q
    disj := fun a q => by cases q
    alive := fun a q => by
      rcases q with q | q
      · rw [List.mem_singleton] at q; subst q; exact ⟨_, hP⟩
      · cases q
    gens := hg
    os := rfl }
  have hLg : Bs.h0.IsList sa svs.toArray := ghost_list hT9 hL
  have hv : RVs Bs [155] [] s₁.heap [.val (.ref sa)] [.ref sa] := .one (.val fun a q => by
    cases q; obtain ⟨o, e, _⟩ := hLg; rw [e]; simp)
  have main := h Bs OK rfl rfl sa svs.toArray ns hLg (by simpa using hI) hlen callerA [155] [] s₁ [.ref sa] ⟨rfl, Nat.le_of_ble_eq_true rfl, Nat.le_of_ble_eq_true rfl⟩ R hv
  refine enter_call (kn_post hT9 (fun _ _ => rfl) (codeAny_mono main fun r s' z => ?_))
  cases r with
  | error e => exact z.elim
  | ok fl => cases fl with
    | ret v =>
      obtain ⟨ρ', φ', H', v', X, R', rv, e, J, eH⟩ := z
      subst e eH
      cases rv.inv
      have hl : ρ'.length = J.length + 1 := by rw [R'.len]; rfl
      have h0 : ρ'[0]? = some 155 := getρ_of X.pre rfl
      refine ⟨⟨.inl ⟨_, .bool true, [], rfl, fun _ => rfl, .bool _, ?_, fun _ => ⟨List.nodup_nil, fun a ha => by cases ha⟩⟩, R'.base, R'.os, R'.gens⟩, ?_, trivial⟩
      · first | rfl | wrow_post
      · cases (R'.obj 0 _ _ rfl h0).inv with
        | opaq ho => exact ho
    | _ => exact z.elim
end
section
section
variable {C : Cx}
theorem bump_sum (t : Tr) (j : Nat) : (t.bump j).sum = t.sum + 1 := by
  unfold Tr.bump Tr.sum
  split
  · dsimp only; omega
  · split <;> (dsimp only; first | rfl | rw [Nat.add_right_comm t.a 1 t.b, Nat.add_right_comm _ 1 t.c] | rw [← Nat.add_assoc, Nat.add_right_comm _ 1 t.c])
theorem trP_sum (p : Nat × Nat) : (trP p).sum = 2 := by unfold trP; rw [bump_sum, bump_sum]; rfl
theorem law_code (good : ∀ t0 t1 t2 t3 t4 t5 : Tr, t0.sum = 2 → t1.sum = 2 → t2.sum = 2 → t3.sum = 2 → t4.sum = 2 → t5.sum = 2 → Good [(t0, t1), (t2, t3), (t4, t5)]) (G : GKB C.B) (hd : 20 < C.d) (hF : C.F = []) {a : Addr} {vs : Array Value} {ns : List Int} (hL : C.B.h0.IsList a vs) (hI : IntsAre vs.toList ns) (hn : ns.length ≤ 63)
    {Q : AV → List AO → Prop} (q : ∀ J, Q (.bool true) (.opaq :: J)) : CODE C [.tab0 155] (.ref 230) [.val (.ref a)] Q := by
  refine CODE_fn G.ok (ar7 (by assumption) (by rfl)) (names := ["script"]) (by refine fnOk_of (by assumption) (by rfl) rfl (by kernel_rfl) rfl rfl rfl ?_ (by kernel_rfl) (by decide) (by kernel_rfl) rfl rfl rfl; exact bind1 fun _ => rfl) rfl ?_
  refine (show EXs C.down (lawSc C.B.w.params) [("script", .val (.ref a))] [.tab0 155] (lawBd C.B.w.params 0) _ from ?_)
  refine law1 (C := C.down) G (by show 10 < C.d - 1; exact ar11 (by assumption) (by rfl)) hL hI hn (fun ps h hok h6 hz hl h7 hl6 => ?_)
  have hd' : 10 < C.down.d := by show 10 < C.d - 1; exact ar11 (by assumption) (by rfl)
  refine sides_ex (C := C.down) G hd' hok h6 ?_
  obtain ⟨p0, p1, p2, p3, p4, p5, rfl⟩ : ∃ p0 p1 p2 p3 p4 p5, ps = [p0, p1, p2, p3, p4, p5] := by
    match ps, h6 with
    | [a, b, c, d, e, f], _ => exact ⟨a, b, c, d, e, f, rfl⟩
  refine words_ex (C := C.down) G hd' hF hok h7 hl6 hz (fun text t1 t2 t3 g0 g1 g2 g3 g4 g5 => ?_)
  refine law3 (C := C.down) G hd' hF rfl hok g0 g1 g2 g4 ?_
  have GG := good (trP p0) (trP p1) (trP p2) (trP p3) (trP p4) (trP p5) (trP_sum _) (trP_sum _) (trP_sum _) (trP_sum _) (trP_sum _) (trP_sum _)
  refine GG.run.elim fun n zz1 => zz1.elim fun fin zz2 => zz2.elim fun hr zz3 => zz3.elim fun ha zz4 => zz4.elim fun ha2 zz5 => zz5.elim fun hk6 hT => ?_; clear zz5 zz4 zz3 zz2 zz1
  refine law4 (C := C.down) G hd' hF rfl GG.len GG.sums hr g3 (ar1 (by assumption) (by rfl)) ha ha2 ?_
  exact law5 (C := C.down) G hd' hF rfl GG.mem GG.len hk6 hT (fun v => q _)
theorem law2_holds (good : ∀ t0 t1 t2 t3 t4 t5 : Tr, t0.sum = 2 → t1.sum = 2 → t2.sum = 2 → t3.sum = 2 → t4.sum = 2 → t5.sum = 2 → Good [(t0, t1), (t2, t3), (t4, t5)]) : PySem.Challenge.rw_rs0207_02.Holds :=
  holds_of fun B O hp hK a vs ns hL hI hn => law_code (C := ⟨B, [], 60⟩) good ⟨O, hK⟩ (show 20 < 60 by decide) rfl hL hI hn fun J => ⟨rfl, J, rfl⟩
end
end
section
noncomputable def leC (r t : Nat) : Bool := Nat.beq (Nat.land (Nat.sub (Nat.add t 2184) r) 2184) 2184
noncomputable def step1C (t : Nat) (kept : List (Nat × Nat)) : Nat := @List.rec (Nat × Nat) (fun _ => Nat) t (fun r _ ih => @Bool.rec (fun _ => Nat) ih (Nat.sub (Nat.add t r.2) r.1) (leC r.1 t)) kept
noncomputable def downC (kept : List (Nat × Nat)) (fuel : Nat) (t : Nat) : Nat := @Nat.rec (fun _ => Nat → Nat) (fun t => t) (fun _ ih t => @Bool.rec (fun _ => Nat) (ih (step1C t kept)) t (Nat.beq (step1C t kept) t)) fuel t
noncomputable def topC (x y : Nat) : Nat := (fun s => (fun m => Nat.add (Nat.land x m) (Nat.land y (Nat.sub 1911 m))) (Nat.sub s (Nat.div s 8))) (Nat.land (Nat.sub (Nat.add x 2184) y) 2184)
noncomputable def newC (big small : Nat) (kept : List (Nat × Nat)) : List (Nat × Nat) := @List.rec (Nat × Nat) (fun _ => List (Nat × Nat)) [] (fun r _ ih =>
  @Bool.rec (fun _ => List (Nat × Nat)) ih
    (@Bool.rec (fun _ => List (Nat × Nat)) ih ((Nat.sub (Nat.add (topC big r.1) small) big, Nat.sub (Nat.add (topC big r.1) r.2) r.1) :: ih) (Nat.ble (Nat.mod (topC big r.1) 15) 4))
    (Nat.ble (Nat.succ (Nat.mod (topC big r.1) 15)) (Nat.add (Nat.mod big 15) (Nat.mod r.1 15)))) kept
noncomputable def appC (x y : List (Nat × Nat)) : List (Nat × Nat) := @List.rec (Nat × Nat) (fun _ => List (Nat × Nat)) y (fun a _ ih => a :: ih) x
noncomputable def goC (x y : Nat) (q kept : List (Nat × Nat)) (ih : List (Nat × Nat) → List (Nat × Nat) → Bool) : Bool :=
  @Bool.rec (fun _ => Bool)
    (@Bool.rec (fun _ => Bool) (ih (appC q (newC y x kept)) (appC kept [(y, x)])) (ih (appC q (newC x y kept)) (appC kept [(x, y)])) (Nat.ble y x))
    (ih q kept) (Nat.beq x y)
noncomputable def lenC (l : List (Nat × Nat)) : Nat := @List.rec (Nat × Nat) (fun _ => Nat) 0 (fun _ _ n => Nat.succ n) l
noncomputable def anti1C (x : Nat) (l : List (Nat × Nat)) : Bool := @List.rec (Nat × Nat) (fun _ => Bool) true (fun r _ ih => @Bool.rec (fun _ => Bool) (@Bool.rec (fun _ => Bool) ih false (leC x r.1)) false (leC r.1 x)) l
noncomputable def antiC (l : List (Nat × Nat)) : Bool := @List.rec (Nat × Nat) (fun _ => Bool) true (fun r l ih => @Bool.rec (fun _ => Bool) false ih (anti1C r.1 l)) l
noncomputable def allC {α : Type} (l : List α) (f : α → Bool) : Bool := @List.rec α (fun _ => Bool) true (fun a _ ih => @Bool.rec (fun _ => Bool) false ih (f a)) l
noncomputable def ctxC : List Nat := [0, 1, 16, 256, 2, 17, 257, 32, 272, 512]
noncomputable def endC (prs kept : List (Nat × Nat)) : Bool := @Bool.rec (fun _ => Bool) false (@Bool.rec (fun _ => Bool) false (allC prs fun p => allC ctxC fun u => Nat.beq (downC kept 15 (Nat.add p.1 u)) (downC kept 15 (Nat.add p.2 u))) (antiC kept)) (Nat.ble (lenC kept) 6)
noncomputable def runC (prs : List (Nat × Nat)) (fuel : Nat) (queue kept : List (Nat × Nat)) : Bool := @Nat.rec (fun _ => List (Nat × Nat) → List (Nat × Nat) → Bool) (fun _ _ => false)
  (fun _ ih queue kept => @List.rec (Nat × Nat) (fun _ => Bool) (endC prs kept) (fun p q _ => goC (downC kept 15 p.1) (downC kept 15 p.2) q kept ih) queue) fuel queue kept
noncomputable def clsC : List (Nat × Nat) := [(2,2),(2,32),(2,512),(2,17),(2,257),(2,272),(32,512),(32,17),(32,257),(32,272),(512,17),(512,257),(512,272),(17,257),(17,272),(257,272)]
noncomputable def chkC (p : Nat × Nat) : Bool := allC clsC fun q => allC clsC fun r => runC [p, q, r] 20 [p, q, r] []
theorem chk0 : chkC (2,2) = true := by decide +kernel
theorem chk1 : chkC (2,32) = true := by decide +kernel
theorem chk2 : chkC (2,512) = true := by decide +kernel
theorem chk3 : chkC (2,17) = true := by decide +kernel
theorem chk4 : chkC (2,257) = true := by decide +kernel
theorem chk5 : chkC (2,272) = true := by decide +kernel
theorem chk6 : chkC (32,512) = true := by decide +kernel
theorem chk7 : chkC (32,17) = true := by decide +kernel
theorem chk8 : chkC (32,257) = true := by decide +kernel
theorem chk9 : chkC (32,272) = true := by decide +kernel
theorem chk10 : chkC (512,17) = true := by decide +kernel
theorem chk11 : chkC (512,257) = true := by decide +kernel
theorem chk12 : chkC (512,272) = true := by decide +kernel
theorem chk13 : chkC (17,257) = true := by decide +kernel
theorem chk14 : chkC (17,272) = true := by decide +kernel
theorem chk15 : chkC (257,272) = true := by decide +kernel
end
section
noncomputable def Tr.code (t : Tr) : Nat := t.a + 16 * t.b + 256 * t.c
noncomputable abbrev cr (r : Rule) : Nat × Nat := (r.1.code, r.2.code)
theorem Tr.ext' {s t : Tr} (h1 : s.a = t.a) (h2 : s.b = t.b) (h3 : s.c = t.c) : s = t := by
  cases s; cases t; simp only [Tr.mk.injEq]; exact ⟨h1, h2, h3⟩
theorem dig {a x : Nat} (h : a ≤ 8) : (a + 16 * x) % 16 = a ∧ (a + 16 * x) / 16 = x := ⟨by rw [Nat.add_mul_mod_self_left, Nat.mod_eq_of_lt (ar3 h rfl)], by rw [Nat.add_mul_div_left _ _ (by decide), Nat.div_eq_of_lt (ar3 h rfl), Nat.zero_add]⟩
theorem code_dig (t : Tr) : t.code = t.a + 16 * (t.b + 16 * t.c) := by unfold Tr.code; rw [Nat.mul_add, ← Nat.mul_assoc, ← Nat.add_assoc]
theorem code_inj {s t : Tr} (hs : s.sum ≤ 8) (ht : t.sum ≤ 8) (h : s.code = t.code) : s = t := by
  rw [code_dig, code_dig] at h
  have a := congrArg (· % 16) h
  have d := congrArg (· / 16) h
  rw [(dig (ar49 hs rfl)).1, (dig (ar49 ht rfl)).1] at a
  rw [(dig (ar49 hs rfl)).2, (dig (ar49 ht rfl)).2] at d
  have b := congrArg (· % 16) d
  have c := congrArg (· / 16) d
  rw [(dig (ar50 hs rfl)).1, (dig (ar50 ht rfl)).1] at b
  rw [(dig (ar50 hs rfl)).2, (dig (ar50 ht rfl)).2] at c
  exact Tr.ext' a b c
noncomputable def ordOk (x y : Tr) : Bool := !(x.sum == y.sum) || match rowsT x y with
  | [] => x.code == y.code
  | w :: _ => (decide (w.2.2 < w.2.1) == decide (y.code < x.code)) && !(x.code == y.code)
theorem ord_chk : (smallTr.all fun x => smallTr.all fun y => ordOk x y) = true := by decide +kernel
theorem le_chk : (smallTr.all fun x => smallTr.all fun y => (leC x.code y.code == x.le y) && (topC x.code y.code == (x.top y).code)) = true := by decide +kernel
theorem le_code {x y : Tr} (hx : x.sum ≤ 4) (hy : y.sum ≤ 4) : leC x.code y.code = x.le y ∧ topC x.code y.code = (x.top y).code := by
  have := List.all_eq_true.mp (List.all_eq_true.mp le_chk x (small_mem hx)) y (small_mem hy)
  simpa using this
theorem ord_code {x y : Tr} (hx : x.sum ≤ 4) (hy : y.sum ≤ 4) (h : x.sum = y.sum) : (rowsT x y = [] ↔ x = y) ∧ keepR x y = if y.code ≤ x.code then (x, y) else (y, x) := by
  have := List.all_eq_true.mp (List.all_eq_true.mp ord_chk x (small_mem hx)) y (small_mem hy)
  unfold ordOk at this
  unfold keepR
  cases hr : rowsT x y with
  | nil =>
    rw [hr] at this
    simp only [h, beq_self_eq_true, Bool.not_true, Bool.false_or, beq_iff_eq] at this
    have e := code_inj (ar1 (by assumption) (by rfl)) (ar1 (by assumption) (by rfl)) this
    subst e
    exact ⟨⟨fun _ => rfl, fun _ => rfl⟩, by rw [if_pos (Nat.le_refl _)]⟩
  | cons w ws =>
    rw [hr] at this
    simp only [h, beq_self_eq_true, Bool.not_true, Bool.false_or, Bool.and_eq_true, beq_iff_eq, Bool.not_eq_eq_eq_not, beq_eq_false_iff_ne, decide_eq_decide] at this
    refine this.elim fun h1 h2 => ?_; (try clear this)
    refine ⟨⟨fun e => (by cases e), fun e => absurd (by rw [e]) h2⟩, ?_⟩
    dsimp only
    by_cases hw : w.2.2 < w.2.1
    · rw [if_pos hw, if_pos (Nat.le_of_lt (h1.mp hw))]
    · rw [if_neg hw, if_neg (fun z => hw (h1.mpr (ar40 (by assumption) (by assumption))))]
inductive TC (prs : List (Tr × Tr)) : Tr → Tr → Prop
  | refl (t) : TC prs t t
  | step {p} (h : p ∈ prs) (u : Tr) : TC prs (p.1.add u) (p.2.add u)
  | symm {a b} (h : TC prs a b) : TC prs b a
  | trans {a b c} (h : TC prs a b) (h' : TC prs b c) : TC prs a c
theorem Tr.add_assoc (a b c : Tr) : (a.add b).add c = a.add (b.add c) := Tr.ext' (Nat.add_assoc _ _ _) (Nat.add_assoc _ _ _) (Nat.add_assoc _ _ _)
theorem Tr.add_comm (a b : Tr) : a.add b = b.add a := Tr.ext' (Nat.add_comm _ _) (Nat.add_comm _ _) (Nat.add_comm _ _)
theorem Tr.sub_add {s t : Tr} (h : s.le t = true) : (t.sub s).add s = t := by
  refine (Tr.le_iff.mp h).elim fun h1 zz1 => zz1.elim fun h2 h3 => ?_; clear zz1
  exact Tr.ext' (Nat.sub_add_cancel h1) (Nat.sub_add_cancel h2) (Nat.sub_add_cancel h3)
theorem TC.add {prs : List (Tr × Tr)} {a b : Tr} (h : TC prs a b) (u : Tr) : TC prs (a.add u) (b.add u) := by
  induction h with
  | refl => exact .refl _
  | step h v => rw [Tr.add_assoc, Tr.add_assoc]; exact .step h _
  | symm _ ih => exact ih.symm
  | trans _ _ ih ih' => exact ih.trans ih'
theorem TC.rule {prs : List (Tr × Tr)} {r : Rule} {t : Tr} (h : TC prs r.1 r.2) (hl : r.1.le t = true) : TC prs t ((t.sub r.1).add r.2) := by
  have := h.add (t.sub r.1)
  rw [Tr.add_comm r.1, Tr.sub_add hl, Tr.add_comm r.2] at this
  exact this
structure RuleOk (prs : List (Tr × Tr)) (r : Rule) : Prop where
  big : r.1.sum ≤ 4
  two : 2 ≤ r.1.sum
  same : r.2.sum = r.1.sum
  less : r.2.code < r.1.code
  conn : TC prs r.1 r.2
noncomputable abbrev KR (prs : List (Tr × Tr)) (kept : List Rule) : Prop := ∀ r ∈ kept, RuleOk prs r
theorem sum_swap {r : Rule} {t : Tr} (hs : r.2.sum = r.1.sum) (hl : r.1.le t = true) : ((t.sub r.1).add r.2).sum = t.sum ∧ ((t.sub r.1).add r.2).code + r.1.code = t.code + r.2.code := by
  refine (Tr.le_iff.mp hl).elim fun h1 zz1 => zz1.elim fun h2 h3 => ?_; clear zz1
  obtain ⟨p, hp⟩ := Nat.le.dest h1
  obtain ⟨q, hq⟩ := Nat.le.dest h2
  obtain ⟨s, hs'⟩ := Nat.le.dest h3
  unfold Tr.sum Tr.add Tr.sub Tr.code at *
  dsimp only
  rw [← hp, ← hq, ← hs', Nat.add_sub_cancel_left, Nat.add_sub_cancel_left, Nat.add_sub_cancel_left]
  clear hp hq hs' h1 h2 h3 hl
  exact ⟨by omega, by omega⟩
theorem step1_some {prs : List (Tr × Tr)} {kept : List Rule} (K : KR prs kept) {t u : Tr} (h : step1 t kept = some u) : u.sum = t.sum ∧ u.code < t.code ∧ TC prs t u ∧ ∃ r ∈ kept, r.1.le t = true := by
  induction kept with
  | nil => cases h
  | cons r l ih =>
    unfold step1 at h
    by_cases hl : r.1.le t = true
    · rw [if_pos hl] at h; cases h
      have R := K r List.mem_cons_self
      refine (sum_swap R.same hl).elim fun h1 h2 => ?_
      exact ⟨h1, by have := R.less; lia, R.conn.rule hl, r, List.mem_cons_self, hl⟩
    · rw [if_neg hl] at h
      refine (ih (fun x hx => K x (List.mem_cons_of_mem _ hx)) h).elim fun h1 zz1 => zz1.elim fun h2 zz2 => zz2.elim fun h3 zz3 => zz3.elim fun r' zz4 => zz4.elim fun h4 h5 => ?_; clear zz4 zz3 zz2 zz1
      exact ⟨h1, h2, h3, r', List.mem_cons_of_mem _ h4, h5⟩
theorem step1_none {kept : List Rule} {t : Tr} (h : step1 t kept = none) : ∀ r ∈ kept, r.1.le t = false := by
  induction kept with
  | nil => simp
  | cons r l ih =>
    unfold step1 at h
    by_cases hl : r.1.le t = true
    · rw [if_pos hl] at h; cases h
    · rw [if_neg hl] at h
      intro x hx
      rcases List.mem_cons.mp hx with e | e
      · subst e; simpa using hl
      · exact ih h x e
theorem step1_code {prs : List (Tr × Tr)} {kept : List Rule} (K : KR prs kept) {t : Tr} (ht : t.sum ≤ 4) : step1C t.code (kept.map cr) = ((step1 t kept).getD t).code := by
  induction kept with
  | nil => rfl
  | cons r l ih =>
    have R := K r List.mem_cons_self
    show @Bool.rec (fun _ => Nat) (step1C t.code (l.map cr)) (t.code + r.2.code - r.1.code) (leC r.1.code t.code) = _
    rw [(le_code R.big ht).1]
    unfold step1
    by_cases hl : r.1.le t = true
    · rw [if_pos hl, hl]
      show t.code + r.2.code - r.1.code = _
      have := (sum_swap R.same hl).2
      show _ = ((t.sub r.1).add r.2).code
      lia
    · rw [if_neg hl, show r.1.le t = false by simpa using hl]
      exact ih fun x hx => K x (List.mem_cons_of_mem _ hx)
theorem Down.facts {prs : List (Tr × Tr)} {kept : List Rule} (K : KR prs kept) {m : Nat} {t u : Tr} (h : Down kept m t u) : u.sum = t.sum ∧ u.code ≤ t.code ∧ TC prs t u ∧ step1 u kept = none := by
  induction h with
  | stop h => exact ⟨rfl, Nat.le_refl _, .refl _, h⟩
  | go h r ih =>
    refine (step1_some K h).elim fun h1 zz1 => zz1.elim fun h2 zz2 => zz2.elim fun h3 _ => ?_; clear zz2 zz1
    refine ih.elim fun i1 zz1 => zz1.elim fun i2 zz2 => zz2.elim fun i3 i4 => ?_; clear zz2 zz1; (try clear ih)
    exact ⟨i1.trans h1, by exact ar46 (by assumption) (by assumption), h3.trans i3, i4⟩
theorem Down.det {kept : List Rule} {m n : Nat} {t u v : Tr} (h : Down kept m t u) : Down kept n t v → u = v := by
  induction h generalizing n with
  | stop h => intro h'; cases h' with
    | stop _ => rfl
    | go h2 _ => rw [h] at h2; cases h2
  | go h r ih => intro h'; cases h' with
    | stop h2 => rw [h] at h2; cases h2
    | go h2 r2 => rw [h] at h2; cases h2; exact ih r2
noncomputable def rank (t : Tr) : Nat := (allTr t.sum).countP fun u => decide (u.code < t.code)
theorem mem_allTr {t : Tr} {n : Nat} : t ∈ allTr n ↔ t.sum = n := by
  unfold allTr Tr.sum
  simp only [List.mem_flatMap, List.mem_range, List.mem_map]
  constructor
  · intro zz1; refine zz1.elim fun p zz2 => zz2.elim fun hp zz3 => zz3.elim fun q zz4 => zz4.elim fun hq zz5 => ?_; clear zz4 zz3 zz2 zz1; (first | subst zz5 | cases zz5); dsimp only; lia
  · intro h
    exact ⟨t.a, by lia, t.b, by lia, Tr.ext' rfl rfl (by dsimp only; lia)⟩
theorem rank_lt' {t u : Tr} (hs : u.sum = t.sum) (h : u.code < t.code) : rank u < rank t := by
  unfold rank
  rw [hs]
  exact countP_lt (fun x _ hx => by simp only [decide_eq_true_eq] at hx ⊢; exact ar45 (by assumption) (by assumption)) (mem_allTr.mpr hs) (by simpa using h) (by simp)
theorem rank_le {t : Tr} (h : t.sum ≤ 4) : rank t ≤ 15 := Nat.le_trans List.countP_le_length (allTr_len h)
theorem down_ex {prs : List (Tr × Tr)} {kept : List Rule} (K : KR prs kept) : ∀ (n : Nat) (t : Tr), rank t ≤ n → ∃ m z, m ≤ rank t ∧ Down kept m t z
  | n, t, hn => by
    cases h : step1 t kept with
    | none => exact ⟨0, t, Nat.zero_le _, .stop h⟩
    | some u =>
      refine (step1_some K h).elim fun h1 zz1 => zz1.elim fun h2 _ => ?_; clear zz1
      have hr := rank_lt' h1 h2
      match n, hn with
      | 0, hn => lia
      | n + 1, hn =>
        refine (down_ex K n u (by lia)).elim fun m zz1 => zz1.elim fun z zz2 => zz2.elim fun hm hz => ?_; clear zz2 zz1
        exact ⟨m + 1, z, by lia, .go h hz⟩
theorem downF_of {kept : List Rule} {m : Nat} {t z : Tr} (h : Down kept m t z) : ∀ n, m < n → downF kept n t = some z := by
  induction h with
  | stop h => intro n hn; cases n with
    | zero => lia
    | succ n => unfold downF; rw [h]
  | go h r ih => intro n hn; cases n with
    | zero => lia
    | succ n => unfold downF; rw [h]; exact ih n (ar24 (by assumption))
theorem downC_of {prs : List (Tr × Tr)} {kept : List Rule} (K : KR prs kept) {m : Nat} {t z : Tr} (h : Down kept m t z) : t.sum ≤ 4 → ∀ n, m ≤ n → downC (kept.map cr) n t.code = z.code := by
  induction h with
  | stop h =>
    intro ht n hn
    cases n with
    | zero => rfl
    | succ n =>
      show @Bool.rec (fun _ => Nat) (downC (kept.map cr) n (step1C _ (kept.map cr))) _ (Nat.beq (step1C _ (kept.map cr)) _) = _
      rw [step1_code K ht, h, Option.getD_none, Nat.beq_refl]
  | go h r ih =>
    rename_i t u v
    intro ht n hn
    refine (step1_some K h).elim fun h1 zz1 => zz1.elim fun h2 _ => ?_; clear zz1
    cases n with
    | zero => lia
    | succ n =>
      show @Bool.rec (fun _ => Nat) (downC (kept.map cr) n (step1C _ (kept.map cr))) _ (Nat.beq (step1C _ (kept.map cr)) _) = _
      rw [step1_code K ht, h, show Nat.beq ((some u).getD t).code t.code = false by
        cases e : Nat.beq ((some u).getD t).code t.code with
        | false => rfl
        | true => have : u.code = t.code := Nat.eq_of_beq_eq_true e; lia]
      exact ih (ar61 (by assumption) (by assumption) (by rfl)) n (ar24 (by assumption))
theorem downs {prs : List (Tr × Tr)} {kept : List Rule} (K : KR prs kept) {t : Tr} (ht : t.sum ≤ 4) : ∃ m z, Down kept m t z ∧ downF kept 60 t = some z ∧ downC (kept.map cr) 15 t.code = z.code ∧ z.sum = t.sum ∧ TC prs t z ∧ z.code ≤ t.code ∧ step1 z kept = none := by
  refine (down_ex K (rank t) t (Nat.le_refl _)).elim fun m zz1 => zz1.elim fun z zz2 => zz2.elim fun hm hz => ?_; clear zz2 zz1
  have := rank_le ht
  refine (hz.facts K).elim fun f1 zz1 => zz1.elim fun f2 zz2 => zz2.elim fun f3 f4 => ?_; clear zz2 zz1
  exact ⟨m, z, hz, downF_of hz 60 (by lia), downC_of K hz ht 15 (ar44 (by assumption) (by assumption)), f1, f3, f2, f4⟩
end
section
theorem code_mod {t : Tr} (h : t.sum ≤ 8) : t.code % 15 = t.sum := by unfold Tr.code Tr.sum at *; lia
theorem appC_eq (x y : List (Nat × Nat)) : appC x y = x ++ y := by
  induction x with
  | nil => rfl
  | cons a l ih => show a :: appC l y = _; rw [ih]; rfl
theorem top_le (x y : Tr) : x.le (x.top y) = true ∧ y.le (x.top y) = true := by
  rw [Tr.le_iff, Tr.le_iff]; exact ⟨⟨Nat.le_max_left _ _, Nat.le_max_left _ _, Nat.le_max_left _ _⟩, Nat.le_max_right _ _, Nat.le_max_right _ _, Nat.le_max_right _ _⟩
theorem top_sum {x y : Tr} : (x.top y).sum ≤ x.sum + y.sum ∧ x.sum ≤ (x.top y).sum := by
  have m : ∀ a b : Nat, max a b ≤ a + b := fun a b => Nat.max_le.mpr ⟨Nat.le_add_right _ _, Nat.le_add_left _ _⟩
  unfold Tr.top Tr.sum; dsimp only; rw [← add3]
  exact ⟨Nat.add_le_add (Nat.add_le_add (m _ _) (m _ _)) (m _ _), Nat.add_le_add (Nat.add_le_add (Nat.le_max_left _ _) (Nat.le_max_left _ _)) (Nat.le_max_left _ _)⟩
theorem newC_eq {prs : List (Tr × Tr)} {B S : Tr} (R : RuleOk prs (B, S)) : ∀ {kept : List Rule}, KR prs kept → newC B.code S.code (kept.map cr) = (newPairs B S kept).map cr
  | [], _ => rfl
  | r :: l, K => by
    have R' := K r List.mem_cons_self
    have ih := newC_eq R (kept := l) fun x hx => K x (List.mem_cons_of_mem _ hx)
    have hB : B.sum ≤ 4 := R.big
    refine (top_sum (x := B) (y := r.1)).elim fun ts _ => ?_
    have hr : r.1.sum ≤ 4 := R'.big
    have e1 : topC B.code r.1.code % 15 = (B.top r.1).sum := by rw [(le_code hB hr).2, code_mod (by lia)]
    have e2 : B.code % 15 = B.sum := code_mod (by lia)
    have e3 : r.1.code % 15 = r.1.sum := code_mod (ar1 (by assumption) (by rfl))
    have e4 : topC B.code r.1.code + S.code - B.code = (((B.top r.1).sub B).add S).code := by
      rw [(le_code hB hr).2]
      have := (sum_swap (r := (B, S)) (t := B.top r.1) R.same (top_le B r.1).1).2
      dsimp only at this; lia
    have e5 : topC B.code r.1.code + r.2.code - r.1.code = (((B.top r.1).sub r.1).add r.2).code := by
      rw [(le_code hB hr).2]
      have := (sum_swap (r := r) (t := B.top r.1) R'.same (top_le B r.1).2).2
      lia
    show @Bool.rec (fun _ => List (Nat × Nat)) (newC B.code S.code (l.map cr))
      (@Bool.rec (fun _ => List (Nat × Nat)) (newC B.code S.code (l.map cr)) ((topC B.code r.1.code + S.code - B.code, topC B.code r.1.code + r.2.code - r.1.code) :: newC B.code S.code (l.map cr)) (Nat.ble (topC B.code r.1.code % 15) 4))
      (Nat.ble (topC B.code r.1.code % 15 + 1) (B.code % 15 + r.1.code % 15)) = _
    rw [e1, e2, e3, e4, e5, ih]
    unfold newPairs
    rw [List.filterMap_cons]
    dsimp only
    by_cases h1 : (B.top r.1).sum < B.sum + r.1.sum
    · rw [Nat.ble_eq_true_of_le (show (B.top r.1).sum + 1 ≤ B.sum + r.1.sum by assumption)]
      by_cases h2 : (B.top r.1).sum < 5
      · rw [Nat.ble_eq_true_of_le (show (B.top r.1).sum ≤ 4 by exact ar4 (by assumption) (by rfl)), if_pos ⟨h1, h2⟩]; rfl
      · rw [show Nat.ble (B.top r.1).sum 4 = false by
          cases e : Nat.ble (B.top r.1).sum 4 with
          | false => rfl
          | true => have := Nat.le_of_ble_eq_true e; lia, if_neg (fun z => h2 z.2)]
    · rw [show Nat.ble ((B.top r.1).sum + 1) (B.sum + r.1.sum) = false by
          cases e : Nat.ble ((B.top r.1).sum + 1) (B.sum + r.1.sum) with
          | false => rfl
          | true => have := Nat.le_of_ble_eq_true e; lia, if_neg (fun z => h1 z.1)]
structure PR (prs : List (Tr × Tr)) (p : Tr × Tr) (c : Nat × Nat) : Prop where
  sum : p.1.sum ≤ 4
  two : 2 ≤ p.1.sum
  same : p.2.sum = p.1.sum
  conn : TC prs p.1 p.2
  rel : (p.1.code = c.1 ∧ p.2.code = c.2) ∨ (p.1.code = c.2 ∧ p.2.code = c.1) ∨ (p.1 = p.2 ∧ c.1 = c.2)
inductive QR (prs : List (Tr × Tr)) : List (Tr × Tr) → List (Nat × Nat) → Prop
  | nil : QR prs [] []
  | cons {p c q d} (h : PR prs p c) (r : QR prs q d) : QR prs (p :: q) (c :: d)
theorem QR.append {prs q q' : List (Tr × Tr)} {d d' : List (Nat × Nat)} (h : QR prs q d) (h' : QR prs q' d') : QR prs (q ++ q') (d ++ d') := by
  induction h with
  | nil => exact h'
  | cons h _ ih => exact .cons h ih
theorem QR.map {prs : List (Tr × Tr)} : ∀ {q : List (Tr × Tr)}, (∀ p ∈ q, PR prs p (cr p)) → QR prs q (q.map cr)
  | [], _ => .nil
  | p :: q, h => .cons (h p List.mem_cons_self) (QR.map fun x hx => h x (List.mem_cons_of_mem _ hx))
theorem newPairs_ok {prs : List (Tr × Tr)} {B S : Tr} (R : RuleOk prs (B, S)) {kept : List Rule} (K : KR prs kept) : ∀ p ∈ newPairs B S kept, PR prs p (cr p) := fun p hp => by
  unfold newPairs at hp
  refine (List.mem_filterMap.mp hp).elim fun r zz1 => zz1.elim fun hr e => ?_; clear zz1
  dsimp only at e
  split at e
  · rename_i hc
    cases e
    have R' := K r hr
    have s1 := (sum_swap (r := (B, S)) (t := B.top r.1) R.same (top_le B r.1).1).1
    have s2 := (sum_swap (r := r) (t := B.top r.1) R'.same (top_le B r.1).2).1
    have t2 := (top_sum (x := B) (y := r.1)).2
    have b2 : 2 ≤ B.sum := R.two
    exact ⟨by dsimp only at s1 ⊢; lia, by dsimp only at s1 ⊢; lia, by dsimp only at s1 s2 ⊢; exact as20 (by assumption) (by assumption), ((TC.rule (r := (B, S)) R.conn (top_le B r.1).1).symm).trans (TC.rule R'.conn (top_le B r.1).2), .inl ⟨rfl, rfl⟩⟩
  · cases e
theorem runC_keep {pc : List (Nat × Nat)} {n : Nat} {qc kc : List (Nat × Nat)} {x y : Tr} (hx : x.sum ≤ 4) (hy : y.sum ≤ 4) (hs : x.sum = y.sum) (hne : x ≠ y) (h : goC x.code y.code qc kc (runC pc n) = true ∨ goC y.code x.code qc kc (runC pc n) = true) :
    runC pc n (appC qc (newC (keepR x y).1.code (keepR x y).2.code kc)) (appC kc [((keepR x y).1.code, (keepR x y).2.code)]) = true := by
  have hc : x.code ≠ y.code := fun e => hne (code_inj (ar1 (by assumption) (by rfl)) (ar1 (by assumption) (by rfl)) e)
  have bx : Nat.beq x.code y.code = false := by
    cases e : Nat.beq x.code y.code with
    | false => rfl
    | true => exact absurd (Nat.eq_of_beq_eq_true e) hc
  have by' : Nat.beq y.code x.code = false := by
    cases e : Nat.beq y.code x.code with
    | false => rfl
    | true => exact absurd (Nat.eq_of_beq_eq_true e).symm hc
  rw [(ord_code hx hy hs).2]
  have nb : ∀ {a b : Nat}, ¬ a ≤ b → Nat.ble a b = false := fun {a b} h => by
    cases e : Nat.ble a b with
    | false => rfl
    | true => exact absurd (Nat.le_of_ble_eq_true e) h
  unfold goC at h
  rw [bx, by'] at h
  by_cases hle : y.code ≤ x.code
  · rw [if_pos hle]
    rw [Nat.ble_eq_true_of_le hle, nb (show ¬ x.code ≤ y.code by lia)] at h
    exact h.elim id id
  · rw [if_neg hle]
    rw [nb hle, Nat.ble_eq_true_of_le (show x.code ≤ y.code by lia)] at h
    exact h.elim id id
theorem sim {prs : List (Tr × Tr)} {pc : List (Nat × Nat)} : ∀ (fuel : Nat) (s : RS) (qc : List (Nat × Nat)), QR prs s.queue qc → KR prs s.kept → s.kept.length + fuel ≤ 20 → s.asked.length + fuel ≤ 20 → s.queue.length + 20 * fuel ≤ 420 →
    (∀ p ∈ s.asked, p.1.sum ≤ 4 ∧ p.2.sum ≤ 4) → runC pc fuel qc (s.kept.map cr) = true →
    ∃ fin, runF fuel s = some fin ∧ KR prs fin.kept ∧ endC pc (fin.kept.map cr) = true ∧ fin.asked.length ≤ 20 ∧ ∀ p ∈ fin.asked, p.1.sum ≤ 4 ∧ p.2.sum ≤ 4
  | 0, s, qc, _, _, _, _, _, _, h => by cases h
  | n + 1, ⟨queue, kept, asked⟩, qc, hq, K, h1, h2, h3, ha, h => by
    dsimp only at hq K h1 h2 h3 ha h
    cases hq with
    | nil => exact ⟨_, rfl, K, h, by dsimp only; exact ar22 (by assumption), ha⟩
    | cons P r =>
      rename_i p c q d
      have hp2 : p.2.sum ≤ 4 := by rw [P.same]; exact P.sum
      obtain ⟨m1, x, dx1, dx2, dx3, dx4, dx5, dx6, dx7⟩ := downs K P.sum
      obtain ⟨m2, y, dy1, dy2, dy3, dy4, dy5, dy6, dy7⟩ := downs K hp2
      have hx : x.sum ≤ 4 := by rw [dx4]; exact P.sum
      have hy : y.sum ≤ 4 := by rw [dy4]; exact hp2
      have hxy : x.sum = y.sum := by rw [dx4, dy4, P.same]
      rw [List.length_cons] at h3
      have hok : okR ⟨p :: q, kept, asked⟩ p.1 p.2 x y q = true := by
        unfold okR
        simp only [Bool.and_eq_true, Nat.ble_eq]
        exact ⟨⟨⟨⟨⟨⟨hx, hy⟩, P.sum⟩, hp2⟩, by exact ar22 (by assumption)⟩, by exact ar49 (by assumption) (by rfl)⟩, by exact ar85 (by assumption) (by rfl)⟩
      have hF : runF (n + 1) ⟨p :: q, kept, asked⟩ = runF n (nextR ⟨p :: q, kept, asked⟩ x y q) := by
        conv => lhs; unfold runF
        dsimp only
        unfold stepR
        dsimp only
        rw [dx2, dy2]
        dsimp only
        rw [if_pos hok]
      have hasked : ∀ u ∈ asked ++ [(x, y)], u.1.sum ≤ 4 ∧ u.2.sum ≤ 4 := fun u hu => by
        rcases List.mem_append.mp hu with e | e
        · exact ha u e
        · rw [List.mem_singleton] at e; subst e; exact ⟨hx, hy⟩
      have h : goC (downC (kept.map cr) 15 c.1) (downC (kept.map cr) 15 c.2) d (kept.map cr) (runC pc n) = true := h
      rw [hF]
      by_cases e : x = y
      · have hn : nextR ⟨p :: q, kept, asked⟩ x y q = ⟨q, kept, asked ++ [(x, y)]⟩ := by unfold nextR; rw [(ord_code hx hy hxy).1.mpr e]
        rw [hn]
        refine sim n _ d r K (by dsimp only; exact ar4 (by assumption) (by rfl)) (by dsimp only; rw [List.length_append]; simp; exact ar33 (by assumption)) (by dsimp only; lia) hasked ?_
        have hb : Nat.beq (downC (kept.map cr) 15 c.1) (downC (kept.map cr) 15 c.2) = true := by
          rcases P.rel with ⟨r1, r2⟩ | ⟨r1, r2⟩ | ⟨_, r2⟩
          · rw [← r1, ← r2, dx3, dy3, e]; exact Nat.beq_refl _
          · rw [← r1, ← r2, dx3, dy3, e]; exact Nat.beq_refl _
          · rw [r2]; exact Nat.beq_refl _
        unfold goC at h
        rw [hb] at h
        exact h
      · have h' : goC x.code y.code d (kept.map cr) (runC pc n) = true ∨ goC y.code x.code d (kept.map cr) (runC pc n) = true := by
          rcases P.rel with ⟨r1, r2⟩ | ⟨r1, r2⟩ | ⟨r1, _⟩
          · rw [← r1, ← r2, dx3, dy3] at h; exact .inl h
          · rw [← r1, ← r2, dx3, dy3] at h; exact .inr h
          · exact absurd (by rw [r1] at dx1; exact dx1.det dy1) e
        have hk := runC_keep hx hy hxy e h'
        have hc : x.code ≠ y.code := fun z => e (code_inj (ar1 (by assumption) (by rfl)) (ar1 (by assumption) (by rfl)) z)
        have tc : TC prs x y := dx5.symm.trans (P.conn.trans dy5)
        have two : 2 ≤ x.sum := by rw [dx4]; exact P.two
        have R : RuleOk prs (keepR x y) := by
          rw [(ord_code hx hy hxy).2]
          split
          · exact ⟨hx, two, hxy.symm, by dsimp only; exact ar40 (by assumption) (by assumption), tc⟩
          · exact ⟨hy, by dsimp only; exact as19 (by assumption) (by assumption), hxy, by dsimp only; exact ar41 (by assumption), tc.symm⟩
        have hn : nextR ⟨p :: q, kept, asked⟩ x y q = ⟨q ++ newPairs (keepR x y).1 (keepR x y).2 kept, kept ++ [keepR x y], asked ++ [(x, y)]⟩ := by
          unfold nextR
          cases hr : rowsT x y with
          | nil => exact absurd ((ord_code hx hy hxy).1.mp hr) e
          | cons w ws => rfl
        rw [hn]
        have hl := newPairs_len (big := (keepR x y).1) (small := (keepR x y).2) (kept := kept)
        generalize keepR x y = kr at hk R hl ⊢
        obtain ⟨B, S⟩ := kr
        dsimp only at hk hl ⊢
        rw [newC_eq R K, appC_eq, appC_eq] at hk
        refine sim n _ (d ++ (newPairs B S kept).map cr) (r.append (QR.map (newPairs_ok R K))) (fun u hu => ?_) (by dsimp only; rw [List.length_append]; simp; exact ar33 (by assumption)) (by dsimp only; rw [List.length_append]; simp; exact ar33 (by assumption)) (by dsimp only; rw [List.length_append]; lia) hasked ?_
        · rcases List.mem_append.mp hu with z | z
          · exact K u z
          · rw [List.mem_singleton] at z; subst z; exact R
        · dsimp only
          rw [List.map_append]
          exact hk
end
section
theorem allC_true {α : Type} {f : α → Bool} : ∀ {l : List α}, allC l f = true → ∀ x ∈ l, f x = true
  | [], _ => fun _ h => (by cases h)
  | a :: l, h => by
    have h : @Bool.rec (fun _ => Bool) false (allC l f) (f a) = true := h
    cases e : f a with
    | false => rw [e] at h; cases h
    | true =>
      rw [e] at h
      intro x hx
      rcases List.mem_cons.mp hx with z | z
      · subst z; exact e
      · exact allC_true h x z
theorem lenC_eq : ∀ l : List (Nat × Nat), lenC l = l.length
  | [] => rfl
  | _ :: l => by show Nat.succ (lenC l) = _; rw [lenC_eq l]; rfl
theorem endC_true {prs kept : List (Nat × Nat)} (h : endC prs kept = true) : kept.length ≤ 6 ∧ antiC kept = true ∧ ∀ p ∈ prs, ∀ u ∈ ctxC, downC kept 15 (p.1 + u) = downC kept 15 (p.2 + u) := by
  unfold endC at h
  cases e1 : Nat.ble (lenC kept) 6 with
  | false => rw [e1] at h; cases h
  | true =>
    rw [e1] at h
    cases e2 : antiC kept with
    | false => rw [e2] at h; cases h
    | true =>
      rw [e2] at h
      exact ⟨by rw [← lenC_eq]; exact Nat.le_of_ble_eq_true e1, rfl, fun p hp u hu => Nat.eq_of_beq_eq_true (allC_true (allC_true h p hp) u hu)⟩
theorem le_refl' (t : Tr) : t.le t = true := Tr.le_iff.mpr ⟨Nat.le_refl _, Nat.le_refl _, Nat.le_refl _⟩
theorem anti1_true {x : Tr} (hx : x.sum ≤ 4) : ∀ {l : List Rule}, (∀ r ∈ l, r.1.sum ≤ 4) → anti1C x.code (l.map cr) = true → ∀ r ∈ l, r.1.le x = false ∧ x.le r.1 = false
  | [], _, _ => fun _ h => (by cases h)
  | a :: l, hs, h => by
    have ha := hs a List.mem_cons_self
    have h : @Bool.rec (fun _ => Bool) (@Bool.rec (fun _ => Bool) (anti1C x.code (l.map cr)) false (leC x.code a.1.code)) false (leC a.1.code x.code) = true := h
    rw [(le_code hx ha).1, (le_code ha hx).1] at h
    cases e1 : a.1.le x with
    | true => rw [e1] at h; cases h
    | false =>
      rw [e1] at h
      cases e2 : x.le a.1 with
      | true => rw [e2] at h; cases h
      | false =>
        rw [e2] at h
        intro r hr
        rcases List.mem_cons.mp hr with z | z
        · subst z; exact ⟨e1, e2⟩
        · exact anti1_true hx (fun r hr => hs r (List.mem_cons_of_mem _ hr)) h r z
theorem anti_true : ∀ {l : List Rule}, (∀ r ∈ l, r.1.sum ≤ 4) → antiC (l.map cr) = true → (l.map (·.1)).Nodup ∧ ∀ r ∈ l, ∀ r' ∈ l, r.1.le r'.1 = true → r.1 = r'.1
  | [], _, _ => ⟨List.nodup_nil, by simp⟩
  | a :: l, hs, h => by
    have ha := hs a List.mem_cons_self
    have hs' : ∀ r ∈ l, r.1.sum ≤ 4 := fun r hr => hs r (List.mem_cons_of_mem _ hr)
    have h : @Bool.rec (fun _ => Bool) false (antiC (l.map cr)) (anti1C a.1.code (l.map cr)) = true := h
    cases e1 : anti1C a.1.code (l.map cr) with
    | false => rw [e1] at h; cases h
    | true =>
      rw [e1] at h
      have h1 := anti1_true ha hs' e1
      refine (anti_true hs' h).elim fun h2 h3 => ?_
      refine ⟨List.nodup_cons.mpr ⟨fun z => ?_, h2⟩, fun r hr r' hr' hle => ?_⟩
      · refine (List.mem_map.mp z).elim fun r zz1 => zz1.elim fun hr e => ?_; clear zz1
        have := (h1 r hr).1
        rw [e, le_refl'] at this; cases this
      · rcases List.mem_cons.mp hr with z | z <;> rcases List.mem_cons.mp hr' with z' | z'
        · subst z z'; rfl
        · subst z; have := (h1 r' z').2; rw [hle] at this; cases this
        · subst z'; have := (h1 r z).1; rw [hle] at this; cases this
        · exact h3 r z r' z' hle
theorem ctx_mem {u : Tr} (h : u.sum ≤ 2) : u.code ∈ ctxC := by
  obtain ⟨a, b, c⟩ := u
  unfold Tr.sum at h
  unfold Tr.code ctxC
  dsimp only at h ⊢
  have ha : a = 0 ∨ a = 1 ∨ a = 2 := by lia
  have hb : b = 0 ∨ b = 1 ∨ b = 2 := by lia
  have hc : c = 0 ∨ c = 1 ∨ c = 2 := by lia
  rcases ha with rfl | rfl | rfl <;> rcases hb with rfl | rfl | rfl <;> rcases hc with rfl | rfl | rfl <;> first | (exfalso; exact ar72 (by assumption) (by rfl)) | decide
theorem num_dec : ∀ n, n < 5 → ∀ s ∈ allTr n, ∀ t ∈ allTr n, (s.num = t.num → s = t) ∧ (s.code < t.code → s.num < t.num) := by decide +kernel
theorem num_inj {s t : Tr} (hs : s.sum = t.sum) (h4 : t.sum ≤ 4) (h : s.num = t.num) : s = t := by
  exact (num_dec t.sum (Nat.lt_succ_of_le h4) s (mem_allTr.mpr hs) t (mem_allTr.mpr rfl)).1 h
theorem num_code {s t : Tr} (hs : s.sum = t.sum) (h4 : t.sum ≤ 4) (h : s.code < t.code) : s.num < t.num := by
  exact (num_dec t.sum (Nat.lt_succ_of_le h4) s (mem_allTr.mpr hs) t (mem_allTr.mpr rfl)).2 h
theorem num_add (s t : Tr) : (s.add t).num = s.num + t.num := by unfold Tr.num Tr.add; dsimp only; rw [Nat.mul_add, Nat.mul_add, Nat.mul_add, add3]
theorem code_add (s t : Tr) : (s.add t).code = s.code + t.code := by unfold Tr.code Tr.add; dsimp only; rw [Nat.mul_add, Nat.mul_add, add3]
theorem sum_add (s t : Tr) : (s.add t).sum = s.sum + t.sum := add3 _ _ _ _ _ _
noncomputable abbrev stepsOf (prs : List (Tr × Tr)) : List (Nat × Nat) := prs.map fun p => (p.1.num, p.2.num)
theorem mem_nums {t : Tr} {n : Nat} (h : t.sum = n) : t.num ∈ nums n := List.mem_map_of_mem (mem_allTr.mpr h)
theorem TC.nconn {prs : List (Tr × Tr)} (h2 : ∀ p ∈ prs, p.1.sum = 2 ∧ p.2.sum = 2) {i : Nat} {a b : Tr} (h : TC prs a b) : a.sum = b.sum ∧ (a.sum = i + 2 → Conn (stepsOf prs) (nums i) a.num b.num) := by
  induction h with
  | refl => exact ⟨rfl, fun _ => .refl _⟩
  | step h u =>
    rename_i p
    refine (h2 p h).elim fun q1 q2 => ?_
    refine ⟨by rw [sum_add, sum_add, q1, q2], fun e => ?_⟩
    rw [sum_add, q1] at e
    rw [num_add, num_add]
    exact .step (s := (p.1.num, p.2.num)) (List.mem_map_of_mem (f := fun p : Tr × Tr => (p.1.num, p.2.num)) h) (mem_nums (ar66 (by assumption)))
  | symm _ ih => exact ⟨ih.1.symm, fun e => (ih.2 (ih.1.trans e)).symm⟩
  | trans _ _ ih ih' => exact ⟨ih.1.trans ih'.1, fun e => (ih.2 e).trans (ih'.2 (ih.1.symm.trans e))⟩
noncomputable def nfT (kept : List Rule) (t : Tr) : Tr := (downF kept 60 t).getD t
noncomputable def gF (kept : List Rule) (s n : Nat) : Nat := match (allTr s).find? (fun t => t.num == n) with
  | some t => (nfT kept t).num
  | none => n
theorem gF_at {kept : List Rule} {t : Tr} (h4 : t.sum ≤ 4) : gF kept t.sum t.num = (nfT kept t).num := by
  unfold gF
  cases e : (allTr t.sum).find? (fun u => u.num == t.num) with
  | none =>
    have := List.find?_eq_none.mp e t (mem_allTr.mpr rfl)
    simp at this
  | some u =>
    have h1 := List.find?_some e
    have h2 := mem_allTr.mp (List.mem_of_find?_eq_some e)
    rw [num_inj h2 h4 (by simpa using h1)]
theorem gF_out {kept : List Rule} {s n : Nat} (h : n ∉ nums s) : gF kept s n = n := by
  unfold gF
  cases e : (allTr s).find? (fun u => u.num == n) with
  | none => rfl
  | some u =>
    have h1 := List.find?_some e
    exact absurd (by rw [← (by simpa using h1 : u.num = n)]; exact List.mem_map_of_mem (List.mem_of_find?_eq_some e)) h
theorem nums_of {n s : Nat} (h : n ∈ nums s) : ∃ t : Tr, t.sum = s ∧ t.num = n := by
  refine (List.mem_map.mp h).elim fun t zz1 => zz1.elim fun ht e => ?_; clear zz1
  exact ⟨t, mem_allTr.mp ht, e⟩
section
variable {prs : List (Tr × Tr)} {kept : List Rule}
theorem gF_least (h2 : ∀ p ∈ prs, p.1.sum = 2 ∧ p.2.sum = 2) (K : KR prs kept) (hcl : ∀ p ∈ prs, ∀ u : Tr, u.sum ≤ 2 → nfT kept (p.1.add u) = nfT kept (p.2.add u)) {i : Nat} (hi : i < 3) : IsLeast (stepsOf prs) (nums i) (nums (i + 2)) (gF kept (i + 2)) := by
  have nf : ∀ t : Tr, t.sum = i + 2 → gF kept (i + 2) t.num = (nfT kept t).num ∧ TC prs t (nfT kept t) ∧ (nfT kept t).code ≤ t.code ∧ (nfT kept t).sum = t.sum := fun t ht => by
    refine (downs K (t := t) (by exact as21 (by assumption) (by assumption) (by rfl))).elim fun m zz1 => zz1.elim fun z zz2 => zz2.elim fun d1 zz3 => zz3.elim fun d2 zz4 => zz4.elim fun d3 zz5 => zz5.elim fun d4 zz6 => zz6.elim fun d5 zz7 => zz7.elim fun d6 d7 => ?_; clear zz7 zz6 zz5 zz4 zz3 zz2 zz1
    have e : nfT kept t = z := by unfold nfT; rw [d2]; rfl
    have := gF_at (kept := kept) (t := t) (by exact as21 (by assumption) (by assumption) (by rfl))
    rw [ht] at this
    exact ⟨this, by rw [e]; exact d5, by rw [e]; exact d6, by rw [e]; exact d4⟩
  refine ⟨⟨fun n => ?_, fun n => ?_, fun n hn => gF_out hn⟩, fun s hs k hk => ?_⟩
  · by_cases h : n ∈ nums (i + 2)
    · refine (nums_of h).elim fun t zz1 => zz1.elim fun ht zz2 => ?_; clear zz1; (first | subst zz2 | cases zz2)
      refine (nf t ht).elim fun n1 zz1 => zz1.elim fun n2 _ => ?_; clear zz1
      rw [n1]; exact (n2.nconn h2).2 ht
    · rw [gF_out h]; exact .refl _
  · by_cases h : n ∈ nums (i + 2)
    · refine (nums_of h).elim fun t zz1 => zz1.elim fun ht zz2 => ?_; clear zz1; (first | subst zz2 | cases zz2)
      refine (nf t ht).elim fun n1 zz1 => zz1.elim fun _ zz2 => zz2.elim fun n3 n4 => ?_; clear zz2 zz1
      rw [n1]
      rcases Nat.lt_or_eq_of_le n3 with q | q
      · exact Nat.le_of_lt (num_code n4 (by exact as21 (by assumption) (by assumption) (by rfl)) q)
      · rw [code_inj (by lia) (by exact as21 (by assumption) (by assumption) (by rfl)) q]; exact Nat.le_refl _
    · rw [gF_out h]; exact Nat.le_refl _
  · refine (List.mem_map.mp hs).elim fun p zz1 => zz1.elim fun hp zz2 => ?_; clear zz1; (first | subst zz2 | cases zz2)
    refine (nums_of hk).elim fun u zz1 => zz1.elim fun hu zz2 => ?_; clear zz1; (first | subst zz2 | cases zz2)
    refine (h2 p hp).elim fun q1 q2 => ?_
    dsimp only
    rw [← num_add, ← num_add, (nf (p.1.add u) (by rw [sum_add]; exact ar39 (by assumption) (by assumption))).1, (nf (p.2.add u) (by rw [sum_add]; exact ar39 (by assumption) (by assumption))).1, hcl p hp u (by exact as15 (by assumption) (by assumption) (by rfl))]
theorem gF_lt (K : KR prs kept) {t : Tr} (h4 : t.sum ≤ 4) : gF kept t.sum t.num < t.num ↔ ∃ r ∈ kept, r.1.le t = true := by
  rw [gF_at h4]
  refine (downs K h4).elim fun m zz1 => zz1.elim fun z zz2 => zz2.elim fun d1 zz3 => zz3.elim fun d2 zz4 => zz4.elim fun d3 zz5 => zz5.elim fun d4 zz6 => zz6.elim fun d5 zz7 => zz7.elim fun d6 d7 => ?_; clear zz7 zz6 zz5 zz4 zz3 zz2 zz1
  have e : nfT kept t = z := by unfold nfT; rw [d2]; rfl
  rw [e]
  constructor
  · intro h
    cases hs : step1 t kept with
    | none =>
      have : z = t := (Down.stop hs).det d1 ▸ rfl
      rw [this] at h; lia
    | some u => exact (step1_some K hs).2.2.2
  · intro zz1; refine zz1.elim fun r zz2 => zz2.elim fun hr hl => ?_; clear zz2 zz1
    cases hs : step1 t kept with
    | none => rw [step1_none hs r hr] at hl; cases hl
    | some u =>
      refine (step1_some K hs).elim fun s1 zz1 => zz1.elim fun s2 zz2 => zz2.elim fun s3 _ => ?_; clear zz2 zz1
      cases d1 with
      | stop h => rw [hs] at h; cases h
      | go h r =>
        rw [hs] at h; cases h
        refine (r.facts K).elim fun f1 zz1 => zz1.elim fun f2 _ => ?_; clear zz1
        exact num_code d4 h4 (by lia)
theorem TK.inv {steps : List (Nat × Nat)} {n : Nat} {f : Nat → Nat} {l : List Tr} (h : TK steps n f l) : ∀ m, n = m + 1 → ∃ bef l', TK steps m bef l' ∧ IsLeast steps (nums m) (nums (m + 2)) f ∧ l = l' ++ (allTr (m + 2)).filter (condT bef f) := by
  cases h with
  | zero => intro m e; cases e
  | succ h hf => intro m e; cases e; exact ⟨_, _, h, hf, rfl⟩
theorem TK.inv0 {steps : List (Nat × Nat)} {n : Nat} {f : Nat → Nat} {l : List Tr} (h : TK steps n f l) : n = 0 → f = (fun n => n) ∧ l = [] := by
  cases h with
  | zero => intro _; exact ⟨rfl, rfl⟩
  | succ h hf => intro e; cases e
end
end
section
noncomputable def bf (kept : List Rule) : Nat → Nat → Nat
  | 0 => fun n => n
  | i + 1 => gF kept (i + 2)
noncomputable def unA (t : Tr) : Tr := ⟨t.a - 1, t.b, t.c⟩
noncomputable def unB (t : Tr) : Tr := ⟨t.a, t.b - 1, t.c⟩
noncomputable def unC (t : Tr) : Tr := ⟨t.a, t.b, t.c - 1⟩
theorem unh1 (k a x y : Nat) : k * a + x + y = k * (a + 1) + x + y - k := by rw [Nat.mul_succ, Nat.add_right_comm (k * a) k x, Nat.add_right_comm _ k y, Nat.add_sub_cancel]
theorem unh2 (k a x y : Nat) : x + k * a + y = x + k * (a + 1) + y - k := by rw [Nat.mul_succ, ← Nat.add_assoc, Nat.add_right_comm _ k y, Nat.add_sub_cancel]
theorem unh3 (k a x y : Nat) : x + y + k * a = x + y + k * (a + 1) - k := by rw [Nat.mul_succ, ← Nat.add_assoc, Nat.add_sub_cancel]
theorem un_num {t : Tr} : (0 < t.a → (unA t).num = t.num - 10101 ∧ (unA t).sum + 1 = t.sum ∧ (unA t).le t = true) ∧ (0 < t.b → (unB t).num = t.num - 10203 ∧ (unB t).sum + 1 = t.sum ∧ (unB t).le t = true) ∧ (0 < t.c → (unC t).num = t.num - 30403 ∧ (unC t).sum + 1 = t.sum ∧ (unC t).le t = true) := by
  obtain ⟨a, b, c⟩ := t
  refine ⟨fun h => ?_, fun h => ?_, fun h => ?_⟩
  · obtain ⟨a, rfl⟩ := Nat.exists_eq_succ_of_ne_zero (Nat.ne_of_gt h)
    exact ⟨unh1 _ _ _ _, by show a + b + c + 1 = a + 1 + b + c; rw [Nat.add_right_comm a 1 b, Nat.add_right_comm _ 1 c], Tr.le_iff.mpr ⟨Nat.le_succ _, Nat.le_refl _, Nat.le_refl _⟩⟩
  · refine (Nat.exists_eq_succ_of_ne_zero (Nat.ne_of_gt h)).elim fun b zz1 => ?_; (first | subst zz1 | cases zz1)
    exact ⟨unh2 _ _ _ _, by show a + b + c + 1 = a + (b + 1) + c; rw [← Nat.add_assoc a b 1, Nat.add_right_comm _ 1 c], Tr.le_iff.mpr ⟨Nat.le_refl _, Nat.le_succ _, Nat.le_refl _⟩⟩
  · refine (Nat.exists_eq_succ_of_ne_zero (Nat.ne_of_gt h)).elim fun c zz1 => ?_; (first | subst zz1 | cases zz1)
    exact ⟨unh3 _ _ _ _, rfl, Tr.le_iff.mpr ⟨Nat.le_refl _, Nat.le_refl _, Nat.le_succ _⟩⟩
theorem lessP_mem {t : Tr} {k : Nat} : k ∈ (lessP t).flatten ↔ (0 < t.a ∧ k = t.num - 10101) ∨ (0 < t.b ∧ k = t.num - 10203) ∨ (0 < t.c ∧ k = t.num - 30403) := by
  unfold lessP
  simp only [List.flatten_cons, List.flatten_nil, List.append_nil, List.mem_append]
  have one : ∀ (c : Prop) [Decidable c] (n : Nat), k ∈ (if c then [n] else []) ↔ c ∧ k = n := fun c _ n => by
    split <;> simp [*]
  rw [one, one, one]
theorem le_trans' {a b c : Tr} (h : a.le b = true) (h' : b.le c = true) : a.le c = true := by
  rw [Tr.le_iff] at *; lia
section
variable {prs : List (Tr × Tr)} {kept : List Rule}
theorem bf_lt (K : KR prs kept) {i : Nat} (hi : i < 3) {u : Tr} (hu : u.sum = i + 1) : bf kept i u.num < u.num ↔ ∃ r ∈ kept, r.1.le u = true := by
  match i, hu with
  | 0, hu =>
    constructor
    · intro h; exact absurd h (Nat.lt_irrefl _)
    · intro zz1; refine zz1.elim fun r zz2 => zz2.elim fun hr hl => ?_; clear zz2 zz1
      have := (K r hr).two
      rw [Tr.le_iff] at hl
      unfold Tr.sum at this hu; lia
  | i + 1, hu =>
    show gF kept (i + 2) u.num < _ ↔ _
    have := gF_lt K (t := u) (ar61 (by assumption) (by assumption) (by rfl))
    rw [hu] at this
    exact this
theorem cond_iff (K : KR prs kept) (anti : ∀ r ∈ kept, ∀ r' ∈ kept, r.1.le r'.1 = true → r.1 = r'.1) {i : Nat} (hi : i < 3) {t : Tr} (ht : t.sum = i + 2) : condT (bf kept i) (gF kept (i + 2)) t = true ↔ ∃ r ∈ kept, r.1 = t := by
  unfold condT
  rw [Bool.and_eq_true, decide_eq_true_eq, List.isEmpty_iff, List.filter_eq_nil_iff]
  have hg := gF_lt K (t := t) (by exact as21 (by assumption) (by assumption) (by rfl))
  rw [ht] at hg
  refine (un_num (t := t)).elim fun uA zz1 => zz1.elim fun uB uC => ?_; clear zz1
  constructor
  · intro zz1; refine zz1.elim fun h1 h2 => ?_; clear zz1
    refine (hg.mp h1).elim fun r zz1 => zz1.elim fun hr hl => ?_; clear zz1
    refine ⟨r, hr, ?_⟩
    have key : ∀ u : Tr, u.num ∈ (lessP t).flatten → u.sum + 1 = t.sum → r.1.le u = true → False := fun u hu hs hle => by
      have := (bf_lt K hi (u := u) (ar77 (by assumption) (by assumption))).mpr ⟨r, hr, hle⟩
      exact h2 _ hu (by simpa using this)
    refine (Tr.le_iff.mp hl).elim fun l1 zz1 => zz1.elim fun l2 l3 => ?_; clear zz1
    rcases Nat.lt_or_eq_of_le l1 with q | q
    · refine (uA (ar7 (by assumption) (by rfl))).elim fun e1 zz1 => zz1.elim fun e2 _ => ?_; clear zz1
      exact (key (unA t) (lessP_mem.mpr (.inl ⟨by exact ar7 (by assumption) (by rfl), e1⟩)) e2 (Tr.le_iff.mpr ⟨by unfold unA; dsimp only; exact ar24 (by assumption), l2, l3⟩)).elim
    · rcases Nat.lt_or_eq_of_le l2 with q' | q'
      · refine (uB (ar7 (by assumption) (by rfl))).elim fun e1 zz1 => zz1.elim fun e2 _ => ?_; clear zz1
        exact (key (unB t) (lessP_mem.mpr (.inr (.inl ⟨by exact ar7 (by assumption) (by rfl), e1⟩))) e2 (Tr.le_iff.mpr ⟨l1, by unfold unB; dsimp only; exact ar24 (by assumption), l3⟩)).elim
      · rcases Nat.lt_or_eq_of_le l3 with q2 | q2
        · refine (uC (ar7 (by assumption) (by rfl))).elim fun e1 zz1 => zz1.elim fun e2 _ => ?_; clear zz1
          exact (key (unC t) (lessP_mem.mpr (.inr (.inr ⟨by exact ar7 (by assumption) (by rfl), e1⟩))) e2 (Tr.le_iff.mpr ⟨l1, l2, by unfold unC; dsimp only; exact ar24 (by assumption)⟩)).elim
        · exact Tr.ext' q q' q2
  · intro zz1; refine zz1.elim fun r zz2 => zz2.elim fun hr zz3 => ?_; clear zz2 zz1; (first | subst zz3 | cases zz3)
    refine ⟨hg.mpr ⟨r, hr, le_refl' _⟩, fun k hk z => ?_⟩
    have key : ∀ u : Tr, u.sum + 1 = r.1.sum → u.le r.1 = true → k = u.num → False := fun u hs hle e => by
      subst e
      refine ((bf_lt K hi (u := u) (ar77 (by assumption) (by assumption))).mp (by simpa using z)).elim fun r' zz1 => zz1.elim fun hr' hl' => ?_; clear zz1
      have := anti r' hr' r hr (le_trans' hl' hle)
      rw [this, Tr.le_iff] at hl'
      unfold Tr.sum at hs; lia
    rcases lessP_mem.mp hk with ⟨q, e⟩ | ⟨q, e⟩ | ⟨q, e⟩
    · refine (uA q).elim fun e1 zz1 => zz1.elim fun e2 e3 => ?_; clear zz1; exact key _ e2 e3 (e.trans e1.symm)
    · refine (uB q).elim fun e1 zz1 => zz1.elim fun e2 e3 => ?_; clear zz1; exact key _ e2 e3 (e.trans e1.symm)
    · refine (uC q).elim fun e1 zz1 => zz1.elim fun e2 e3 => ?_; clear zz1; exact key _ e2 e3 (e.trans e1.symm)
theorem allTr_nodup {n : Nat} (h : n ≤ 4) : (allTr n).Nodup := by
  have : n = 0 ∨ n = 1 ∨ n = 2 ∨ n = 3 ∨ n = 4 := by exact ar26 (by assumption)
  rcases this with rfl | rfl | rfl | rfl | rfl <;> decide
theorem good_end (h2 : ∀ p ∈ prs, p.1.sum = 2 ∧ p.2.sum = 2) (K : KR prs kept) (hcl : ∀ p ∈ prs, ∀ u : Tr, u.sum ≤ 2 → nfT kept (p.1.add u) = nfT kept (p.2.add u)) (hnd : (kept.map (·.1)).Nodup) (anti : ∀ r ∈ kept, ∀ r' ∈ kept, r.1.le r'.1 = true → r.1 = r'.1)
    {f : Nat → Nat} {l : List Tr} (h : TK (stepsOf prs) 3 f l) : (∀ t ∈ allTr 4, ∃ m u, Down kept m t u ∧ u.num = f t.num) ∧ (kept.map (·.1)).Perm l ∧ l.Nodup := by
  refine (h.inv 2 rfl).elim fun f3 zz1 => zz1.elim fun l3 zz2 => zz2.elim fun k3 zz3 => zz3.elim fun i4 zz4 => ?_; clear zz3 zz2 zz1; (first | subst zz4 | cases zz4)
  refine (k3.inv 1 rfl).elim fun f2 zz1 => zz1.elim fun l2 zz2 => zz2.elim fun k2 zz3 => zz3.elim fun i3 zz4 => ?_; clear zz3 zz2 zz1; (first | subst zz4 | cases zz4)
  refine (k2.inv 0 rfl).elim fun f1 zz1 => zz1.elim fun l1 zz2 => zz2.elim fun k1 zz3 => zz3.elim fun i2 zz4 => ?_; clear zz3 zz2 zz1; (first | subst zz4 | cases zz4)
  refine (k1.inv0 rfl).elim fun zz1 zz2 => ?_; (first | subst zz1 | cases zz1); (first | subst zz2 | cases zz2)
  obtain rfl := i4.uniq (gF_least h2 K hcl (i := 2) (by decide))
  obtain rfl := i3.uniq (gF_least h2 K hcl (i := 1) (by decide))
  obtain rfl := i2.uniq (gF_least h2 K hcl (i := 0) (by decide))
  have m2 : ∀ t : Tr, t ∈ (allTr 2).filter (condT (fun n => n) (gF kept 2)) ↔ t.sum = 2 ∧ ∃ r ∈ kept, r.1 = t := fun t => by
    rw [List.mem_filter, mem_allTr]; exact ⟨fun zz1 => zz1.elim fun a b => ⟨a, (cond_iff K anti (i := 0) (by decide) a).mp b⟩, fun zz1 => zz1.elim fun a b => ⟨a, (cond_iff K anti (i := 0) (by decide) a).mpr b⟩⟩
  have m3 : ∀ t : Tr, t ∈ (allTr 3).filter (condT (gF kept 2) (gF kept 3)) ↔ t.sum = 3 ∧ ∃ r ∈ kept, r.1 = t := fun t => by
    rw [List.mem_filter, mem_allTr]; exact ⟨fun zz1 => zz1.elim fun a b => ⟨a, (cond_iff K anti (i := 1) (by decide) a).mp b⟩, fun zz1 => zz1.elim fun a b => ⟨a, (cond_iff K anti (i := 1) (by decide) a).mpr b⟩⟩
  have m4 : ∀ t : Tr, t ∈ (allTr 4).filter (condT (gF kept 3) (gF kept 4)) ↔ t.sum = 4 ∧ ∃ r ∈ kept, r.1 = t := fun t => by
    rw [List.mem_filter, mem_allTr]; exact ⟨fun zz1 => zz1.elim fun a b => ⟨a, (cond_iff K anti (i := 2) (by decide) a).mp b⟩, fun zz1 => zz1.elim fun a b => ⟨a, (cond_iff K anti (i := 2) (by decide) a).mpr b⟩⟩
  have nd : ([] ++ (allTr (0 + 2)).filter (condT (fun n => n) (gF kept (0 + 2))) ++ (allTr (1 + 2)).filter (condT (gF kept (0 + 2)) (gF kept (1 + 2))) ++ (allTr (2 + 2)).filter (condT (gF kept (1 + 2)) (gF kept (2 + 2)))).Nodup := by
    rw [List.nil_append, List.nodup_append, List.nodup_append]
    refine ⟨⟨(allTr_nodup (by decide)).filter _, (allTr_nodup (by decide)).filter _, fun a ha b hb e => ?_⟩, (allTr_nodup (by decide)).filter _, fun a ha b hb e => ?_⟩
    · subst e
      have := ((m2 a).mp ha).1; have := ((m3 a).mp hb).1; lia
    · subst e
      have q4 := ((m4 a).mp hb).1
      rcases List.mem_append.mp ha with z | z
      · have := ((m2 a).mp z).1; lia
      · have := ((m3 a).mp z).1; lia
  refine ⟨fun t ht => ?_, (List.perm_ext_iff_of_nodup hnd nd).mpr fun t => ?_, nd⟩
  · have ht' := mem_allTr.mp ht
    refine (downs K (t := t) (ar5 (by assumption) (by rfl))).elim fun m zz1 => zz1.elim fun z zz2 => zz2.elim fun d1 zz3 => zz3.elim fun d2 _ => ?_; clear zz3 zz2 zz1
    refine ⟨m, z, d1, ?_⟩
    have := gF_at (kept := kept) (t := t) (ar5 (by assumption) (by rfl))
    rw [ht'] at this
    rw [show z = nfT kept t by unfold nfT; rw [d2]; rfl]
    exact this.symm
  · rw [List.nil_append, List.mem_append, List.mem_append]
    show _ ↔ (t ∈ (allTr 2).filter (condT (fun n => n) (gF kept 2)) ∨ t ∈ (allTr 3).filter (condT (gF kept 2) (gF kept 3))) ∨ t ∈ (allTr 4).filter (condT (gF kept 3) (gF kept 4))
    rw [m2, m3, m4, List.mem_map]
    constructor
    · intro zz1; refine zz1.elim fun r zz2 => zz2.elim fun hr zz3 => ?_; clear zz2 zz1; (first | subst zz3 | cases zz3)
      have R := K r hr
      have h1 := R.two; have h2 := R.big
      have : r.1.sum = 2 ∨ r.1.sum = 3 ∨ r.1.sum = 4 := by exact ar27 (by assumption) (by assumption)
      rcases this with q | q | q
      · exact .inl (.inl ⟨q, r, hr, rfl⟩)
      · exact .inl (.inr ⟨q, r, hr, rfl⟩)
      · exact .inr ⟨q, r, hr, rfl⟩
    · rintro ((⟨_, r, hr, e⟩ | ⟨_, r, hr, e⟩) | ⟨_, r, hr, e⟩) <;> exact ⟨r, hr, e⟩
end
theorem good_of {p0 p1 p2 : Tr × Tr} {c0 c1 c2 : Nat × Nat} (h2 : ∀ p ∈ [p0, p1, p2], p.1.sum = 2 ∧ p.2.sum = 2) (r0 : PR [p0, p1, p2] p0 c0) (r1 : PR [p0, p1, p2] p1 c1) (r2 : PR [p0, p1, p2] p2 c2) (h : runC [c0, c1, c2] 20 [c0, c1, c2] [] = true) : Good [p0, p1, p2] := by
  refine (sim (prs := [p0, p1, p2]) 20 ⟨[p0, p1, p2], [], []⟩ [c0, c1, c2] (.cons r0 (.cons r1 (.cons r2 .nil))) (fun r hr => by cases hr) (Nat.le_of_ble_eq_true rfl) (Nat.le_of_ble_eq_true rfl) (Nat.le_of_ble_eq_true rfl) (fun p hp => by cases hp) h).elim fun fin zz1 => zz1.elim fun hr zz2 => zz2.elim fun K zz3 => zz3.elim fun he zz4 => zz4.elim fun ha1 ha2 => ?_; clear zz4 zz3 zz2 zz1
  refine (endC_true he).elim fun e1 zz1 => zz1.elim fun e2 e3 => ?_; clear zz1
  rw [List.length_map] at e1
  refine (anti_true (fun r hr => (K r hr).big) e2).elim fun a1 a2 => ?_
  have hcl : ∀ p ∈ [p0, p1, p2], ∀ u : Tr, u.sum ≤ 2 → nfT fin.kept (p.1.add u) = nfT fin.kept (p.2.add u) := fun p hp u hu => by
    obtain ⟨q1, q2⟩ := h2 p hp
    have hc : ∃ c ∈ [c0, c1, c2], PR [p0, p1, p2] p c := by
      simp only [List.mem_cons, List.not_mem_nil, or_false] at hp
      rcases hp with rfl | rfl | rfl
      · exact ⟨c0, by simp, r0⟩
      · exact ⟨c1, by simp, r1⟩
      · exact ⟨c2, by simp, r2⟩
    obtain ⟨c, hc, P⟩ := hc
    have hd := e3 c hc _ (ctx_mem hu)
    refine (downs K (t := p.1.add u) (by rw [sum_add]; exact as35 (by assumption) (by assumption) (by rfl))).elim fun _ zz1 => zz1.elim fun x zz2 => zz2.elim fun dx1 zz3 => zz3.elim fun dx2 zz4 => zz4.elim fun dx3 zz5 => zz5.elim fun dx4 _ => ?_; clear zz5 zz4 zz3 zz2 zz1
    refine (downs K (t := p.2.add u) (by rw [sum_add]; exact as35 (by assumption) (by assumption) (by rfl))).elim fun _ zz1 => zz1.elim fun y zz2 => zz2.elim fun dy1 zz3 => zz3.elim fun dy2 zz4 => zz4.elim fun dy3 zz5 => zz5.elim fun dy4 _ => ?_; clear zz5 zz4 zz3 zz2 zz1
    have ex : nfT fin.kept (p.1.add u) = x := by unfold nfT; rw [dx2]; rfl
    have ey : nfT fin.kept (p.2.add u) = y := by unfold nfT; rw [dy2]; rfl
    rcases P.rel with ⟨z1, z2⟩ | ⟨z1, z2⟩ | ⟨z1, _⟩
    · rw [← z1, ← z2, ← code_add, ← code_add, dx3, dy3] at hd
      rw [ex, ey]; exact code_inj (by rw [dx4, sum_add]; exact as35 (by assumption) (by assumption) (by rfl)) (by rw [dy4, sum_add]; exact as35 (by assumption) (by assumption) (by rfl)) hd
    · rw [← z1, ← z2, ← code_add, ← code_add, dx3, dy3] at hd
      rw [ex, ey]; exact code_inj (by rw [dx4, sum_add]; exact as35 (by assumption) (by assumption) (by rfl)) (by rw [dy4, sum_add]; exact as35 (by assumption) (by assumption) (by rfl)) hd.symm
    · rw [z1]
  refine ⟨fun p hp => by have := h2 p hp; lia, rfl, fun i hi s hs k hk => ?_, 20, fin, hr, fun p hp => ⟨(room_at (ha2 p hp).1 (ha2 p hp).2).2, ha2 p hp⟩, by exact ar1 (by assumption) (by rfl), e1, fun f l hT => good_end h2 K hcl a1 a2 hT⟩
  refine (List.mem_map.mp hs).elim fun p zz1 => zz1.elim fun hp zz2 => ?_; clear zz1; (first | subst zz2 | cases zz2)
  refine (nums_of hk).elim fun u zz1 => zz1.elim fun hu zz2 => ?_; clear zz1; (first | subst zz2 | cases zz2)
  refine (h2 p hp).elim fun q1 q2 => ?_
  dsimp only
  rw [← num_add, ← num_add]
  exact ⟨mem_nums (by rw [sum_add]; exact ar39 (by assumption) (by assumption)), mem_nums (by rw [sum_add]; exact ar39 (by assumption) (by assumption))⟩
theorem cls_dec : ∀ s ∈ allTr 2, ∀ t ∈ allTr 2, ∃ c ∈ clsC, (s.code = c.1 ∧ t.code = c.2) ∨ (s.code = c.2 ∧ t.code = c.1) ∨ (s = t ∧ c.1 = c.2) := by decide +kernel
theorem cls_of {prs : List (Tr × Tr)} {p : Tr × Tr} (hp : p ∈ prs) (h1 : p.1.sum = 2) (h2 : p.2.sum = 2) : ∃ c ∈ clsC, PR prs p c :=
  have tc : TC prs p.1 p.2 := TC.step hp (⟨0, 0, 0⟩ : Tr)
  (cls_dec p.1 (mem_allTr.mpr h1) p.2 (mem_allTr.mpr h2)).elim fun c zz1 => zz1.elim fun hc h =>
  ⟨c, hc, ar5 h1 rfl, ar13 h1 rfl, h2.trans h1.symm, tc, h⟩
theorem run_all {p q r : Nat × Nat} (hp : p ∈ clsC) (hq : q ∈ clsC) (hr : r ∈ clsC) : runC [p, q, r] 20 [p, q, r] [] = true := by
  have h : chkC p = true := by
    simp only [clsC, List.mem_cons, List.not_mem_nil, or_false] at hp
    rcases hp with rfl | rfl | rfl | rfl | rfl | rfl | rfl | rfl | rfl | rfl | rfl | rfl | rfl | rfl | rfl | rfl
    · exact chk0
    · exact chk1
    · exact chk2
    · exact chk3
    · exact chk4
    · exact chk5
    · exact chk6
    · exact chk7
    · exact chk8
    · exact chk9
    · exact chk10
    · exact chk11
    · exact chk12
    · exact chk13
    · exact chk14
    · exact chk15
  exact allC_true (allC_true h q hq) r hr
theorem good_all (t0 t1 t2 t3 t4 t5 : Tr) (h0 : t0.sum = 2) (h1 : t1.sum = 2) (h2 : t2.sum = 2) (h3 : t3.sum = 2) (h4 : t4.sum = 2) (h5 : t5.sum = 2) : Good [(t0, t1), (t2, t3), (t4, t5)] := by
  refine (cls_of (prs := [(t0, t1), (t2, t3), (t4, t5)]) (p := (t0, t1)) (by simp) h0 h1).elim fun c0 zz1 => zz1.elim fun m0 r0 => ?_; clear zz1
  refine (cls_of (prs := [(t0, t1), (t2, t3), (t4, t5)]) (p := (t2, t3)) (by simp) h2 h3).elim fun c1 zz1 => zz1.elim fun m1 r1 => ?_; clear zz1
  refine (cls_of (prs := [(t0, t1), (t2, t3), (t4, t5)]) (p := (t4, t5)) (by simp) h4 h5).elim fun c2 zz1 => zz1.elim fun m2 r2 => ?_; clear zz1
  refine good_of (fun p hp => ?_) r0 r1 r2 (run_all m0 m1 m2)
  simp only [List.mem_cons, List.not_mem_nil, or_false] at hp
  rcases hp with rfl | rfl | rfl
  · exact ⟨h0, h1⟩
  · exact ⟨h2, h3⟩
  · exact ⟨h4, h5⟩
end
end Pj
theorem PySem.Challenge.cw_rs0207_02_holds : PySem.Challenge.rw_rs0207_02.Holds :=
  Pj.law2_holds Pj.good_all
