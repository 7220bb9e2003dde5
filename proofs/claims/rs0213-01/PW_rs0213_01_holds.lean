import PyProof.Rows.All
import PyProof.ExcFactsAll.ValueError
import PyProof.ExcAttrAll.ValueError
import PyProof.StationsW
import PyProof.ExcStrAll.ValueError
import PyProof.ExcStrCall
import PyProof.ListNew
import PyProof.NsDelKeeps
import OpenK.KRaise
import KE.KNest
import KE.KSortKey
import Wide.FinOn
import OpenK.AllK
import Wide.All
import Lean
import PySem.Challenge.RW_rs0213_01
open PySem PySem.W PyProof.Rows
set_option Elab.async false
set_option maxRecDepth 100000
set_option autoImplicit false
set_option linter.unusedVariables false
set_option compiler.extract_closed false
set_option genInjectivity false
set_option genSizeOf false
set_option bootstrap.genMatcherCode false
set_option tactic.hygienic false
set_option maxHeartbeats 8000000
namespace Mine
noncomputable section
open Str (ofString empty)
open List (length_map mem_append_right getElem?_map getElem?_eq_getElem mem_append_left replicate length_take size_toArray length_append length_cons map_cons mem_of_getElem? map_map take_length getD_eq_getElem?_getD of_mem_zip range_succ mem_of_mem_take length_drop take_add_one append_assoc sum_cons replicate_succ flatten_cons filterMap_cons foldl_cons map_append take_of_length_le flatMap_cons map_take getElem_mem filter_append range' getElem?_eq_none mem_of_mem_drop filter_cons cons_append map_drop take_zero take_succ_cons takeWhile_cons getD dropWhile_cons append_nil take_append_drop length_range mem_map_of_mem map_congr_left length_nil getElem?_zipIdx foldl_append getElem?_append_left flatMap_append drop_zero drop_drop nil_append drop_eq_getElem_cons length_replicate length_filter_le getElem?_append_right drop_length all_eq_true mem_cons any_cons tail_drop length_reverse length_flatten getElem_of_mem forall_mem_nil foldl_nil flatten_append filterMap_cons_some take_left' mem_cons_of_mem drop_left' count_cons)
open Prod (fst)
open Nat (le_refl sub_add_cancel le_trans min_le_right lt_or_ge mod_lt ne_of_lt zero_le le_of_lt le_succ le_antisymm min_eq_left zero_add lt_succ_self le_of_eq lt_irrefl sub_le min_le_left le_add_right min_eq_right le_total lt_of_lt_of_le succ_pos ne_of_gt lt_succ_of_lt succ_mul succ_le_succ mul_le_mul ble mul_le_mul_right lt_trichotomy beq lt_of_le_of_lt)
open Heap (get?_push_size lt_size get?_push_of_some get?_update_self size_push get?_update_other)
open Int (toNat_natCast add_zero toNat_of_nonneg mul_add emod_nonneg mul_zero add_assoc natCast_nonneg one_mul natCast_add max_eq_left)
open Bool (false_eq_true and_eq_true not_eq_true eq_false_iff)
open Option (map_some getD_some)
open Array (toList_append)
variable {s s' s1 s₀ s'' s2 s0 s₁ sr : Shared} {A : Around} {Z D wr D' Z' Zc pv Zn Zr fr as : List Addr} {env : Env} {H : Option Value} {pos tpos pos' vpos spos py np : Pos} {h h' : Heap} {v oc u fv old : Value} {size n B i c k d0 lo hi g tk y j col z dm cut ln line at0 ar : Nat} {x name n1 n2 n3 qual n4 kx attr : Str} {a am I aa it fa C la al : Addr} {α β ι κ : Type} {G A0 A1 A2 A3 A4 : Prop} {e target value iter slice elt test target' iter' r v1 v2 : PySem.Expr} {b : Int} {body orelse : List Stmt} {d : Nat × Nat} {tg : PySem.Expr → Prop} {scope sc : Scope} {gn ds msg x0 tl cl : List Nat} {l : List Env} {ms fl marks : List (Nat × Bool)} {fd : FuncData} {t : Tok} {xs : List Str} {rest ifs elts ifs' : List PySem.Expr} {K : Frag} {prog : Program} {w : World} {f : Nat → Bool} {od : Option Addr} {dv binds : List (Str × Value)} {es : List DictEntry} {ls hidden hid : List (List Nat)} {P : List Value → Prop} {st : Stmt} {kws : List Keyword} {gs : List Comprehension} {Y : Protocol} {op : CmpOp} {whole newAcc : Sem Value} {St : Nat → List Addr → Shared → Prop} {dp nums : List Int} {x₀ : ι} {inner : Env → Addr → Sem Unit} {params : Arguments} {fs : List Frame} {T : String} {fvs vs' : List Value} {kd : Str → Option NameKind} {y₀ : κ} {Rs : Result → Shared → Prop} {gd : Bool → Bool} {lv : List Value → List Value} {Fr : Shared → Prop} {kf : NameKind}
noncomputable section
inductive AE where
 | v (i : Nat) | w (i : Nat) | k (n : Nat) | cast (a : AE) | neg (a : AE) | add (a b : AE) | sub (a b : AE) | mul (n : Nat) (a : AE) | mulr (a : AE) (n : Nat)
def nthN : List Nat → Nat → Nat
 | [], _ => 0
 | a :: l, i => Nat.casesOn i a fun i => nthN l i
def NB : List Int → Nat → Int
 | [], _ => 0
 | a :: l, i => Nat.casesOn i a fun i => NB l i
abbrev Fo := Int × List Int × List Int
noncomputable def lad : List Int → List Int → List Int
 | [], b => b
 | x :: a, b => List.casesOn b (x :: a) fun y b => (x + y) :: lad a b
def lsm (m : Int) (l : List Int) : List Int := l.map (m * ·)
def lun : Nat → List Int
 | 0 => [1]
 | i + 1 => 0 :: lun i
noncomputable def Fo.add (a b : Fo) : Fo := (a.1 + b.1, lad a.2.1 b.2.1, lad a.2.2 b.2.2)
noncomputable def Fo.sm (m : Int) (a : Fo) : Fo := (m * a.1, lsm m a.2.1, lsm m a.2.2)
def Fo.sub (a b : Fo) : Fo := a.add (b.sm (-1))
def Fo.kk (n : Int) : Fo := (n, [], [])
def csl : List Nat → List Int
 | [] => []
 | n :: l => (n : Int) :: csl l
def dt : List Int → List Int → Int
 | [], _ => 0
 | c :: cs, xs => List.casesOn xs 0 fun x xs => c * x + dt cs xs
section
variable (ns : List Nat) (zs : List Int)
def AE.vn (a : AE) : Nat := AE.rec (nthN ns) (fun _ => 0) (fun n => n) (fun _ _ => 0) (fun _ _ => 0) (fun _ _ a b => a + b) (fun _ _ _ _ => 0) (fun n _ a => n * a) (fun _ n a => a * n) a
def AE.vz (a : AE) : Int := AE.rec (fun _ => 0) (NB zs) (fun n => @OfNat.ofNat Int n _) (fun a _ => ((a.vn ns : Nat) : Int)) (fun _ a => -a) (fun _ _ a b => a + b) (fun _ _ a b => a - b) (fun n _ a => @OfNat.ofNat Int n _ * a) (fun _ n a => a * @OfNat.ofNat Int n _) a
inductive AF where
 | le (a b : AE) | lt (a b : AE) | eq (a b : AE) | zle (a b : AE) | zlt (a b : AE) | zeq (a b : AE) | not (f : AF) | ff
def AF.dd (f : AF) : Prop := AF.rec (fun a b => a.vn ns ≤ b.vn ns) (fun a b => a.vn ns < b.vn ns) (fun a b => a.vn ns = b.vn ns) (fun a b => a.vz ns zs ≤ b.vz ns zs) (fun a b => a.vz ns zs < b.vz ns zs) (fun a b => a.vz ns zs = b.vz ns zs) (fun _ f => ¬ f) False f
def AF.dss (fs : List (Int × AF)) (g : AF) : Prop := List.rec (g.dd ns zs) (fun f _ r => f.2.dd ns zs → r) fs
def AE.fn (a : AE) : Fo := AE.rec (fun i => (0, lun i, [])) (fun _ => .kk 0) (fun n => .kk n) (fun _ _ => .kk 0) (fun _ _ => .kk 0) (fun _ _ a b => a.add b) (fun _ _ _ _ => .kk 0) (fun n _ a => a.sm n) (fun _ n a => a.sm n) a
def AE.fz (a : AE) : Fo := AE.rec (fun _ => .kk 0) (fun i => (0, [], lun i)) (fun n => .kk n) (fun a _ => a.fn) (fun _ a => a.sm (-1)) (fun _ _ a b => a.add b) (fun _ _ a b => a.sub b) (fun n _ a => a.sm n) (fun _ n a => a.sm n) a
def AF.fo (f : AF) : Bool → Bool × Fo := AF.rec
 (fun a b s => (false, bif s then a.fn.sub b.fn else (b.fn.sub a.fn).add (.kk 1)))
 (fun a b s => (false, bif s then (a.fn.sub b.fn).add (.kk 1) else b.fn.sub a.fn))
 (fun a b s => (s, bif s then a.fn.sub b.fn else .kk 0))
 (fun a b s => (false, bif s then a.fz.sub b.fz else (b.fz.sub a.fz).add (.kk 1)))
 (fun a b s => (false, bif s then (a.fz.sub b.fz).add (.kk 1) else b.fz.sub a.fz))
 (fun a b s => (s, bif s then a.fz.sub b.fz else .kk 0))
 (fun _ f s => f !s) (fun _ => (false, .kk 0)) f
def AF.ck (m : Int) (g : AF) (fs : List (Int × AF)) : Fo → Bool := List.rec
 (fun t => let q := g.fo false; let t := t.add (q.2.sm m); (q.1 || decide (0 ≤ m)) && decide (0 < t.1) && (t.2.1.all fun x => decide (0 ≤ x)) && t.2.2.all fun x => x == 0)
 (fun f _ r t => let q := f.2.fo true; (q.1 || decide (0 ≤ f.1)) && r (t.add (q.2.sm f.1))) fs
noncomputable def Fo.ev (a : Fo) : Int := a.1 + dt a.2.1 (csl ns) + dt a.2.2 zs
theorem i4 (a b c d : Int) : a + b + (c + d) = a + c + (b + d) := by rw [add_assoc, Int.add_left_comm b, ← add_assoc]
theorem Jp : ∀ (a b xs : List Int), dt (lad a b) xs = dt a xs + dt b xs
 | [], b, xs => (Int.zero_add _).symm
 | _ :: _, [], _ => (add_zero _).symm
 | _ :: _, _ :: _, [] => rfl
 | x :: a, y :: b, z :: xs => by show (x + y) * z + dt (lad a b) xs = (x * z + dt a xs) + (y * z + dt b xs); rw [Jp a b xs, Int.add_mul, i4]
theorem LZ (m : Int) : ∀ (a xs : List Int), dt (lsm m a) xs = m * dt a xs
 | [], _ => (mul_zero m).symm
 | _ :: _, [] => (mul_zero m).symm
 | x :: a, z :: xs => by show m * x * z + dt (lsm m a) xs = m * (x * z + dt a xs); rw [LZ m a xs, mul_add, Int.mul_assoc]
theorem Fq (a b : Fo) : (a.add b).ev ns zs = a.ev ns zs + b.ev ns zs := by
 show a.1 + b.1 + dt (lad _ _) _ + dt (lad _ _) _ = _; rw [Jp, Jp, i4 a.1 b.1, i4 (a.1 + _)]; rfl
theorem Iw (m : Int) (a : Fo) : (a.sm m).ev ns zs = m * a.ev ns zs := by
 show m * a.1 + dt (lsm _ _) _ + dt (lsm _ _) _ = m * (_ + _ + _); rw [LZ, LZ, mul_add, mul_add]
theorem Ho (a b : Fo) : (a.sub b).ev ns zs = a.ev ns zs - b.ev ns zs := by rw [Fo.sub, Fq, Iw, Int.neg_one_mul]; rfl
theorem e_k (n : Int) : (Fo.kk n).ev ns zs = n := (add_zero _).trans (add_zero _)
theorem Q3 : ∀ (ns : List Nat) (i : Nat), dt (lun i) (csl ns) = (nthN ns i : Int)
 | [], 0 | [], _ + 1 => rfl
 | a :: l, 0 => (add_zero _).trans (one_mul _)
 | a :: l, i + 1 => by show 0 * (a : Int) + dt (lun i) _ = (nthN l i : Int); rw [Q3 l i, Int.zero_mul, Int.zero_add]
theorem Q4 : ∀ (zs : List Int) (i : Nat), dt (lun i) zs = NB zs i
 | [], 0 | [], _ + 1 => rfl
 | a :: l, 0 => (add_zero _).trans (one_mul _)
 | a :: l, i + 1 => by show 0 * a + dt (lun i) _ = NB l i; rw [Q4 l i, Int.zero_mul, Int.zero_add]
theorem Ox (a : AE) : ((a.vn ns : Nat) : Int) = a.fn.ev ns zs := by
 induction a with
 | v i => exact (((add_zero _).trans (Int.zero_add _)).trans (Q3 ns i)).symm
 | k n => exact (e_k ns zs n).symm
 | add a b i j => exact (congr (congrArg _ i) j).trans (Fq ns zs a.fn b.fn).symm
 | mul n a i => exact (congrArg _ i).trans (Iw ns zs n a.fn).symm
 | mulr a n i => exact ((Int.mul_comm _ _).trans (congrArg _ i)).trans (Iw ns zs n a.fn).symm
 | w | cast | neg | sub => exact (e_k ns zs 0).symm
theorem Pv (a : AE) : a.vz ns zs = a.fz.ev ns zs := by
 induction a with
 | w i => exact ((Int.zero_add _).trans (Q4 zs i)).symm
 | k n => exact (e_k ns zs n).symm
 | cast a => exact Ox ns zs a
 | neg a i => exact (congrArg (- ·) i).trans ((Int.neg_one_mul _).symm.trans (Iw ns zs (-1) a.fz).symm)
 | add a b i j => exact (congr (congrArg _ i) j).trans (Fq ns zs a.fz b.fz).symm
 | sub a b i j => exact (congr (congrArg _ i) j).trans (Ho ns zs a.fz b.fz).symm
 | mul n a i => exact (congrArg _ i).trans (Iw ns zs n a.fz).symm
 | mulr a n i => exact ((Int.mul_comm _ _).trans (congrArg _ i)).trans (Iw ns zs n a.fz).symm
 | v => exact (e_k ns zs 0).symm
def Ok (q : Bool × Fo) : Prop := q.2.ev ns zs ≤ 0 ∧ (q.1 = true → q.2.ev ns zs = 0)
section
variable {ns zs} {f g : Fo} {a : Int} (ha : a = f.ev ns zs) (hb : b = g.ev ns zs)
include ha hb
theorem Kh (h : a ≤ b) : Ok ns zs (false, f.sub g) := ⟨by rw [Ho, ← ha, ← hb]; exact Int.sub_nonpos_of_le h, nofun⟩
theorem Ki (h : a < b) : Ok ns zs (false, (f.sub g).add (.kk 1)) := ⟨by rw [Fq, Ho, ← ha, ← hb, e_k]; exact Int.add_one_le_of_lt (Int.sub_neg_of_lt h), nofun⟩
theorem Ob (h : a = b) : Ok ns zs (true, f.sub g) := by
 have : (f.sub g).ev ns zs = 0 := by rw [Ho, ← ha, ← hb, h, Int.sub_self]
 exact ⟨Int.le_of_eq this, fun _ => this⟩
end
theorem OA : Ok ns zs (false, .kk 0) := ⟨Int.le_of_eq (e_k ns zs 0), nofun⟩
theorem Oy (f : AF) : (f.dd ns zs → Ok ns zs (f.fo true)) ∧ (¬ f.dd ns zs → Ok ns zs (f.fo false)) := by
 have N := Ox ns zs
 have Z := Pv ns zs
 induction f with
 | le a b => exact ⟨fun h => Kh (N a) (N b) (Int.ofNat_le.mpr h), fun h => Ki (N b) (N a) (Int.ofNat_lt.mpr (Nat.lt_of_not_le h))⟩
 | lt a b => exact ⟨fun h => Ki (N a) (N b) (Int.ofNat_lt.mpr h), fun h => Kh (N b) (N a) (Int.ofNat_le.mpr (Nat.le_of_not_lt h))⟩
 | eq a b => exact ⟨fun h => Ob (N a) (N b) (congrArg _ h), fun _ => OA ns zs⟩
 | zle a b => exact ⟨Kh (Z a) (Z b), fun h => Ki (Z b) (Z a) (Int.lt_of_not_ge h)⟩
 | zlt a b => exact ⟨Ki (Z a) (Z b), fun h => Kh (Z b) (Z a) (Int.le_of_not_gt h)⟩
 | zeq a b => exact ⟨Ob (Z a) (Z b), fun _ => OA ns zs⟩
 | not f i => exact ⟨i.2, fun h => i.1 (Classical.not_not.mp h)⟩
 | ff => exact ⟨False.elim, fun _ => OA ns zs⟩
theorem NV : ∀ (cs : List Int) (ns : List Nat), (cs.all fun x => decide (0 ≤ x)) = true → 0 ≤ dt cs (csl ns)
 | [], _, _ => Int.le_refl 0
 | _ :: _, [], _ => Int.le_refl 0
 | c :: cs, n :: ns, h =>
  have h := (and_eq_true _ _).mp h
  Int.add_nonneg (Int.mul_nonneg (of_decide_eq_true h.1) (natCast_nonneg n)) (NV cs ns h.2)
theorem JQ : ∀ (cs zs : List Int), (cs.all fun x => x == 0) = true → dt cs zs = 0
 | [], _, _ => rfl
 | _ :: _, [], _ => rfl
 | c :: cs, z :: zs, h => by
  have h := (and_eq_true _ _).mp h
  show c * z + dt cs zs = 0
  rw [JQ cs zs h.2, eq_of_beq h.1, Int.zero_mul]; rfl
theorem Pu {q : Bool × Fo} {m : Int} (hg : Ok ns zs q) (h : (q.1 || decide (0 ≤ m)) = true) : (q.2.sm m).ev ns zs ≤ 0 := by
 rw [Iw]
 refine ((Bool.or_eq_true _ _).mp h).elim (fun h => ?_) fun h => Int.mul_nonpos_of_nonneg_of_nonpos (of_decide_eq_true h) hg.1
 rw [hg.2 h, mul_zero]; exact Int.le_refl 0
theorem Po (m : Int) (g : AF) (fs : List (Int × AF)) : ∀ (t : Fo), t.ev ns zs ≤ 0 → AF.ck m g fs t = true → AF.dss ns zs fs g := by
 induction fs with
 | nil =>
  refine fun t ht h => Classical.byContradiction fun hn => ?_
  have h := (and_eq_true _ _).mp h
  have h1 := (and_eq_true _ _).mp h.1
  have h2 := (and_eq_true _ _).mp h1.1
  have hg := Int.add_nonpos ht (Pu ns zs ((Oy ns zs g).2 hn) h2.1)
  rw [← Fq] at hg
  refine Int.not_lt.mpr hg ?_
  refine Int.add_pos_of_pos_of_nonneg (Int.add_pos_of_pos_of_nonneg (of_decide_eq_true h2.2) (NV _ ns h1.2)) (Int.le_of_eq (JQ _ zs h.2).symm)
 | cons f fs i =>
  refine fun t ht h hf => ?_
  have h := (and_eq_true _ _).mp h
  exact i _ ((Fq ns zs _ _).symm ▸ Int.add_nonpos ht (Pu ns zs ((Oy ns zs f.2).1 hf) h.1)) h.2
end
noncomputable def rdL (d : Nat) : Nat → Nat × Nat := Nat.rec (fun n => (0, n)) (fun _ f n => let r := f (n / 32); (n % 32 + 32 * r.1, r.2)) d
def sel {α : Type} (d : α) (l : List α) : Nat → α := List.rec (fun _ => d) (fun a _ r n => Nat.casesOn n a fun n => r n) l
def rdE (f : Nat) : Nat → AE × Nat := Nat.rec (fun n => (.k 0, n)) (fun _ f n =>
  let t := n % 32
  let n := n / 32
  let a := f n
  let b := f a.2
  let r := rdL 1 n
  let c := f r.2
  bif ble 20 t then (.w (t - 20), n) else bif ble 8 t then (.v (t - 8), n) else
  sel (.mulr c.1 r.1, c.2) [(.add a.1 b.1, b.2), (.sub a.1 b.1, b.2), (.neg a.1, a.2), (.cast a.1, a.2), (.k (n % 32), n / 32), (let r := rdL (n % 32) (n / 32); (.k r.1, r.2)), (.mul r.1 c.1, c.2)] t) f
def rdF (f : Nat) : Nat → AF × Nat := Nat.rec (fun n => (.ff, n)) (fun _ f n =>
  let t := n % 32
  let n := n / 32
  let a := rdE 20 n
  let b := rdE 20 a.2
  bif beq t 6 then (.not (f n).1, (f n).2) else bif beq t 7 then (.ff, n) else
  (sel (.zeq a.1 b.1) [.le a.1 b.1, .lt a.1 b.1, .eq a.1 b.1, .zle a.1 b.1, .zlt a.1 b.1] t, b.2)) f
def rdM (m : Nat) : Int := bif ble 16 m then -((m - 15 : Nat) : Int) else ((m : Nat) : Int)
def rdH (c : Nat) : Nat → List (Int × AF) × Nat := Nat.rec (fun n => ([], n)) (fun _ f n =>
  let a := rdF 4 (n / 32)
  let r := f a.2
  ((rdM (n % 32), a.1) :: r.1, r.2)) c
def nlH (c : Nat) : List (Int × AF) × Nat := rdH (c % 32) (c / 1024)
def nlM (c : Nat) : Int := rdM (c / 32 % 32)
def nlG (c : Nat) : AF := (rdF 4 (nlH c).2).1
def ckc (c : Nat) : Bool := AF.ck (nlM c) (nlG c) (nlH c).1 (.kk 0)
abbrev D8 (ns : List Nat) (zs : List Int) (c : Nat) : Prop := AF.dss ns zs (nlH c).1 (nlG c)
theorem nl (ns : List Nat) (zs : List Int) (c : Nat) (h : ckc c = true) : D8 ns zs c :=
 Po ns zs _ _ _ _ (Int.le_of_eq (e_k ns zs 0)) h
theorem rt : true = true := rfl
theorem RD {x : Nat} : x % (k + 1) < k + 1 := mod_lt _ (succ_pos _)
theorem Qd {x : Nat} : x ≤ x - y + y := le_trans (Nat.le_max_left x y) (le_of_eq (Nat.sub_add_eq_max ..).symm)
def AF.cq (g : AF) (fs : List (Int × AF)) : Fo → Bool := List.rec
 (fun t => let q := g.fo true; let t := t.add q.2; q.1 && t.1 == 0 && (t.2.1.all fun x => x == 0) && t.2.2.all fun x => x == 0)
 (fun f _ r t => let q := f.2.fo true; q.1 && r (t.add (q.2.sm f.1))) fs
section
variable (ns : List Nat) (zs : List Int)
theorem Ow (f : AF) : ∀ s, (f.fo s).1 = true → (f.fo s).2.ev ns zs = 0 → bif s then f.dd ns zs else ¬ f.dd ns zs := by
 have N := Ox ns zs
 have Z := Pv ns zs
 induction f with
 | eq a b =>
  intro s h e; cases h
  have e : (a.fn.sub b.fn).ev ns zs = 0 := e
  rw [Ho, ← N, ← N] at e
  exact Int.ofNat_inj.mp (Int.eq_of_sub_eq_zero e)
 | zeq a b =>
  intro s h e; cases h
  have e : (a.fz.sub b.fz).ev ns zs = 0 := e
  rw [Ho, ← Z, ← Z] at e
  exact Int.eq_of_sub_eq_zero e
 | not f i =>
  intro s h e
  have := i _ h e
  cases s with
  | true => exact this
  | false => exact Classical.not_not.mpr this
 | _ => intro s h; cases h
theorem Pp (g : AF) (fs : List (Int × AF)) : ∀ (t : Fo), t.ev ns zs = 0 → AF.cq g fs t = true → AF.dss ns zs fs g := by
 induction fs with
 | nil =>
  refine fun t ht h => ?_
  have h := (and_eq_true _ _).mp h
  have h1 := (and_eq_true _ _).mp h.1
  have h2 := (and_eq_true _ _).mp h1.1
  refine Ow ns zs g true h2.1 ?_
  have h4 := Fq ns zs t (g.fo true).2
  rw [ht, Int.zero_add] at h4
  refine h4.symm.trans ?_
  show (Fo.add _ _).1 + dt _ _ + dt _ _ = 0
  rw [eq_of_beq h2.2, JQ _ _ h1.2, JQ _ _ h.2]; rfl
 | cons f fs i =>
  refine fun t ht h hf => ?_
  have h := (and_eq_true _ _).mp h
  exact i _ (by rw [Fq, Iw, ht, ((Oy ns zs f.2).1 hf).2 h.1, mul_zero]; rfl) h.2
end
def ckq (c : Nat) : Bool := AF.cq (nlG c) (nlH c).1 (.kk 0)
theorem nq (ns : List Nat) (zs : List Int) (c : Nat) (h : ckq c = true) : D8 ns zs c :=
 Pp ns zs _ _ _ (e_k ns zs 0) h
section
variable {a b d e f l m : Nat} {x y z u v w s t r q p o : Int} (n : Nat)
theorem Cs (h : ckc n = true) : D8 [] [] n := nl _ _ n h
theorem FI (h : ckc n = true) : D8 [] [x] n := nl _ _ n h
theorem l02 (h : ckc n = true) : D8 [] [x, y] n := nl _ _ n h
theorem l03 (h : ckc n = true) : D8 [] [x, y, z] n := nl _ _ n h
theorem l04 (h : ckc n = true) : D8 [] [x, y, z, u] n := nl _ _ n h
theorem l05 (h : ckc n = true) : D8 [] [x, y, z, u, v] n := nl _ _ n h
theorem Aq (h : ckc n = true) : D8 [a] [] n := nl _ _ n h
theorem l11 (h : ckc n = true) : D8 [a] [x] n := nl _ _ n h
theorem l12 (h : ckc n = true) : D8 [a] [x, y] n := nl _ _ n h
theorem l13 (h : ckc n = true) : D8 [a] [x, y, z] n := nl _ _ n h
theorem Aa (h : ckc n = true) : D8 [a, b] [] n := nl _ _ n h
theorem l21 (h : ckc n = true) : D8 [a, b] [x] n := nl _ _ n h
theorem l22 (h : ckc n = true) : D8 [a, b] [x, y] n := nl _ _ n h
theorem AB (h : ckc n = true) : D8 [a, b, c] [] n := nl _ _ n h
theorem l31 (h : ckc n = true) : D8 [a, b, c] [x] n := nl _ _ n h
theorem l32 (h : ckc n = true) : D8 [a, b, c] [x, y] n := nl _ _ n h
theorem B7 (h : ckc n = true) : D8 [a, b, c, d] [] n := nl _ _ n h
theorem FE (h : ckc n = true) : D8 [a, b, c, d, e] [] n := nl _ _ n h
theorem l60 (h : ckc n = true) : D8 [a, b, c, d, e, f] [] n := nl _ _ n h
theorem q01 (h : ckq n = true) : D8 [] [x] n := nq _ _ n h
theorem q02 (h : ckq n = true) : D8 [] [x, y] n := nq _ _ n h
theorem q03 (h : ckq n = true) : D8 [] [x, y, z] n := nq _ _ n h
theorem q04 (h : ckq n = true) : D8 [] [x, y, z, u] n := nq _ _ n h
theorem q05 (h : ckq n = true) : D8 [] [x, y, z, u, v] n := nq _ _ n h
theorem q07 (h : ckq n = true) : D8 [] [x, y, z, u, v, w, s] n := nq _ _ n h
theorem IW (h : ckq n = true) : D8 [a] [] n := nq _ _ n h
theorem q11 (h : ckq n = true) : D8 [a] [x] n := nq _ _ n h
theorem q12 (h : ckq n = true) : D8 [a] [x, y] n := nq _ _ n h
theorem GH (h : ckq n = true) : D8 [a, b] [] n := nq _ _ n h
theorem q21 (h : ckq n = true) : D8 [a, b] [x] n := nq _ _ n h
theorem Ez (h : ckq n = true) : D8 [a, b, c] [] n := nq _ _ n h
theorem q32 (h : ckq n = true) : D8 [a, b, c] [x, y] n := nq _ _ n h
theorem q33 (h : ckq n = true) : D8 [a, b, c] [x, y, z] n := nq _ _ n h
theorem q40 (h : ckq n = true) : D8 [a, b, c, d] [] n := nq _ _ n h
theorem q50 (h : ckq n = true) : D8 [a, b, c, d, e] [] n := nq _ _ n h
theorem q60 (h : ckq n = true) : D8 [a, b, c, d, e, f] [] n := nq _ _ n h
end
end
theorem Av (f : A0 → A1 → G) (h : A0 ∧ A1) : G := by
 obtain ⟨a0, a1⟩ := h; exact f a0 a1
theorem CP (f : A0 → A1 → A2 → G) (h : A0 ∧ A1 ∧ A2) : G := by
 obtain ⟨a0, a1, a2⟩ := h; exact f a0 a1 a2
theorem IZ (f : A0 → A1 → A2 → A3 → G) (h : A0 ∧ A1 ∧ A2 ∧ A3) : G := by
 obtain ⟨a0, a1, a2, a3⟩ := h; exact f a0 a1 a2 a3
theorem QJ (f : A0 → A1 → A2 → A3 → A4 → G) (h : A0 ∧ A1 ∧ A2 ∧ A3 ∧ A4) : G := by
 obtain ⟨a0, a1, a2, a3, a4⟩ := h; exact f a0 a1 a2 a3 a4
theorem Ol  {A5 A6 : Prop} (f : A0 → A1 → A2 → A3 → A4 → A5 → A6 → G) (h : A0 ∧ A1 ∧ A2 ∧ A3 ∧ A4 ∧ A5 ∧ A6) : G := by
 obtain ⟨a0, a1, a2, a3, a4, a5, a6⟩ := h; exact f a0 a1 a2 a3 a4 a5 a6
theorem Ao {α0 : Sort _} {A0 : α0 → Prop} (f : ∀ x0, A0 x0 → G) (h : ∃ x0, A0 x0) : G := by
 obtain ⟨x0, a0⟩ := h; exact f x0 a0
theorem Ar {α0 : Sort _} {A0 A1 : α0 → Prop} (f : ∀ x0, A0 x0 → A1 x0 → G) (h : ∃ x0, A0 x0 ∧ A1 x0) : G := by
 obtain ⟨x0, a0, a1⟩ := h; exact f x0 a0 a1
theorem F9 {α0 : Sort _} {A0 A1 A2 : α0 → Prop} (f : ∀ x0, A0 x0 → A1 x0 → A2 x0 → G) (h : ∃ x0, A0 x0 ∧ A1 x0 ∧ A2 x0) : G := by
 obtain ⟨x0, a0, a1, a2⟩ := h; exact f x0 a0 a1 a2
theorem K1 {α0 : Sort _} {A0 A1 A2 A3 : α0 → Prop} (f : ∀ x0, A0 x0 → A1 x0 → A2 x0 → A3 x0 → G) (h : ∃ x0, A0 x0 ∧ A1 x0 ∧ A2 x0 ∧ A3 x0) : G := by
 obtain ⟨x0, a0, a1, a2, a3⟩ := h; exact f x0 a0 a1 a2 a3
theorem QK {α0 : Sort _} {A0 A1 A2 A3 A4 : α0 → Prop} (f : ∀ x0, A0 x0 → A1 x0 → A2 x0 → A3 x0 → A4 x0 → G) (h : ∃ x0, A0 x0 ∧ A1 x0 ∧ A2 x0 ∧ A3 x0 ∧ A4 x0) : G := by
 obtain ⟨x0, a0, a1, a2, a3, a4⟩ := h; exact f x0 a0 a1 a2 a3 a4
theorem B8 {α0 : Sort _} {α1 : Sort _} {A0 A1 : α0 → α1 → Prop} (f : ∀ x0 x1, A0 x0 x1 → A1 x0 x1 → G) (h : ∃ x0 x1, A0 x0 x1 ∧ A1 x0 x1) : G := by
 obtain ⟨x0, x1, a0, a1⟩ := h; exact f x0 x1 a0 a1
theorem Bv {α0 : Sort _} {α1 : Sort _} {A0 A1 A2 : α0 → α1 → Prop} (f : ∀ x0 x1, A0 x0 x1 → A1 x0 x1 → A2 x0 x1 → G) (h : ∃ x0 x1, A0 x0 x1 ∧ A1 x0 x1 ∧ A2 x0 x1) : G := by
 obtain ⟨x0, x1, a0, a1, a2⟩ := h; exact f x0 x1 a0 a1 a2
theorem QL {α0 : Sort _} {α1 : Sort _} {A0 A1 A2 A3 : α0 → α1 → Prop} (f : ∀ x0 x1, A0 x0 x1 → A1 x0 x1 → A2 x0 x1 → A3 x0 x1 → G) (h : ∃ x0 x1, A0 x0 x1 ∧ A1 x0 x1 ∧ A2 x0 x1 ∧ A3 x0 x1) : G := by
 obtain ⟨x0, x1, a0, a1, a2, a3⟩ := h; exact f x0 x1 a0 a1 a2 a3
theorem CQ {α0 : Sort _} {α1 : Sort _} {α2 : Sort _} {A0 A1 : α0 → α1 → α2 → Prop} (f : ∀ x0 x1 x2, A0 x0 x1 x2 → A1 x0 x1 x2 → G) (h : ∃ x0 x1 x2, A0 x0 x1 x2 ∧ A1 x0 x1 x2) : G := by
 obtain ⟨x0, x1, x2, a0, a1⟩ := h; exact f x0 x1 x2 a0 a1
theorem BZ {α0 : Sort _} {α1 : Sort _} {α2 : Sort _} {A0 A1 A2 : α0 → α1 → α2 → Prop} (f : ∀ x0 x1 x2, A0 x0 x1 x2 → A1 x0 x1 x2 → A2 x0 x1 x2 → G) (h : ∃ x0 x1 x2, A0 x0 x1 x2 ∧ A1 x0 x1 x2 ∧ A2 x0 x1 x2) : G := by
 obtain ⟨x0, x1, x2, a0, a1, a2⟩ := h; exact f x0 x1 x2 a0 a1 a2
theorem Nd {α0 : Sort _} {α1 : Sort _} {α2 : Sort _} {A0 A1 A2 A3 : α0 → α1 → α2 → Prop} (f : ∀ x0 x1 x2, A0 x0 x1 x2 → A1 x0 x1 x2 → A2 x0 x1 x2 → A3 x0 x1 x2 → G) (h : ∃ x0 x1 x2, A0 x0 x1 x2 ∧ A1 x0 x1 x2 ∧ A2 x0 x1 x2 ∧ A3 x0 x1 x2) : G := by
 obtain ⟨x0, x1, x2, a0, a1, a2, a3⟩ := h; exact f x0 x1 x2 a0 a1 a2 a3
theorem QM {α0 : Sort _} {α1 : Sort _} {α2 : Sort _} {A0 A1 A2 A3 A4 : α0 → α1 → α2 → Prop} (f : ∀ x0 x1 x2, A0 x0 x1 x2 → A1 x0 x1 x2 → A2 x0 x1 x2 → A3 x0 x1 x2 → A4 x0 x1 x2 → G) (h : ∃ x0 x1 x2, A0 x0 x1 x2 ∧ A1 x0 x1 x2 ∧ A2 x0 x1 x2 ∧ A3 x0 x1 x2 ∧ A4 x0 x1 x2) : G := by
 obtain ⟨x0, x1, x2, a0, a1, a2, a3, a4⟩ := h; exact f x0 x1 x2 a0 a1 a2 a3 a4
theorem DD {α0 : Sort _} {α1 : Sort _} {α2 : Sort _} {α3 : Sort _} {A0 A1 : α0 → α1 → α2 → α3 → Prop} (f : ∀ x0 x1 x2 x3, A0 x0 x1 x2 x3 → A1 x0 x1 x2 x3 → G) (h : ∃ x0 x1 x2 x3, A0 x0 x1 x2 x3 ∧ A1 x0 x1 x2 x3) : G := by
 obtain ⟨x0, x1, x2, x3, a0, a1⟩ := h; exact f x0 x1 x2 x3 a0 a1
theorem OQ {α0 : Sort _} {α1 : Sort _} {α2 : Sort _} {α3 : Sort _} {A0 A1 A2 : α0 → α1 → α2 → α3 → Prop} (f : ∀ x0 x1 x2 x3, A0 x0 x1 x2 x3 → A1 x0 x1 x2 x3 → A2 x0 x1 x2 x3 → G) (h : ∃ x0 x1 x2 x3, A0 x0 x1 x2 x3 ∧ A1 x0 x1 x2 x3 ∧ A2 x0 x1 x2 x3) : G := by
 obtain ⟨x0, x1, x2, x3, a0, a1, a2⟩ := h; exact f x0 x1 x2 x3 a0 a1 a2
theorem OR {α0 : Sort _} {α1 : Sort _} {α2 : Sort _} {α3 : Sort _} {A0 A1 A2 A3 : α0 → α1 → α2 → α3 → Prop} (f : ∀ x0 x1 x2 x3, A0 x0 x1 x2 x3 → A1 x0 x1 x2 x3 → A2 x0 x1 x2 x3 → A3 x0 x1 x2 x3 → G) (h : ∃ x0 x1 x2 x3, A0 x0 x1 x2 x3 ∧ A1 x0 x1 x2 x3 ∧ A2 x0 x1 x2 x3 ∧ A3 x0 x1 x2 x3) : G := by
 obtain ⟨x0, x1, x2, x3, a0, a1, a2, a3⟩ := h; exact f x0 x1 x2 x3 a0 a1 a2 a3
theorem K3 {α0 : Sort _} {α1 : Sort _} {α2 : Sort _} {α3 : Sort _} {A0 A1 A2 A3 A4 : α0 → α1 → α2 → α3 → Prop} (f : ∀ x0 x1 x2 x3, A0 x0 x1 x2 x3 → A1 x0 x1 x2 x3 → A2 x0 x1 x2 x3 → A3 x0 x1 x2 x3 → A4 x0 x1 x2 x3 → G) (h : ∃ x0 x1 x2 x3, A0 x0 x1 x2 x3 ∧ A1 x0 x1 x2 x3 ∧ A2 x0 x1 x2 x3 ∧ A3 x0 x1 x2 x3 ∧ A4 x0 x1 x2 x3) : G := by
 obtain ⟨x0, x1, x2, x3, a0, a1, a2, a3, a4⟩ := h; exact f x0 x1 x2 x3 a0 a1 a2 a3 a4
theorem OS {α0 : Sort _} {α1 : Sort _} {α2 : Sort _} {α3 : Sort _} {α4 : Sort _} {A0 A1 : α0 → α1 → α2 → α3 → α4 → Prop} (f : ∀ x0 x1 x2 x3 x4, A0 x0 x1 x2 x3 x4 → A1 x0 x1 x2 x3 x4 → G) (h : ∃ x0 x1 x2 x3 x4, A0 x0 x1 x2 x3 x4 ∧ A1 x0 x1 x2 x3 x4) : G := by
 obtain ⟨x0, x1, x2, x3, x4, a0, a1⟩ := h; exact f x0 x1 x2 x3 x4 a0 a1
theorem OT {α0 : Sort _} {α1 : Sort _} {α2 : Sort _} {α3 : Sort _} {α4 : Sort _} {A0 A1 A2 A3 : α0 → α1 → α2 → α3 → α4 → Prop} (f : ∀ x0 x1 x2 x3 x4, A0 x0 x1 x2 x3 x4 → A1 x0 x1 x2 x3 x4 → A2 x0 x1 x2 x3 x4 → A3 x0 x1 x2 x3 x4 → G) (h : ∃ x0 x1 x2 x3 x4, A0 x0 x1 x2 x3 x4 ∧ A1 x0 x1 x2 x3 x4 ∧ A2 x0 x1 x2 x3 x4 ∧ A3 x0 x1 x2 x3 x4) : G := by
 obtain ⟨x0, x1, x2, x3, x4, a0, a1, a2, a3⟩ := h; exact f x0 x1 x2 x3 x4 a0 a1 a2 a3
theorem OU {α0 : Sort _} {α1 : Sort _} {α2 : Sort _} {α3 : Sort _} {α4 : Sort _} {A0 A1 A2 A3 A4 : α0 → α1 → α2 → α3 → α4 → Prop} (f : ∀ x0 x1 x2 x3 x4, A0 x0 x1 x2 x3 x4 → A1 x0 x1 x2 x3 x4 → A2 x0 x1 x2 x3 x4 → A3 x0 x1 x2 x3 x4 → A4 x0 x1 x2 x3 x4 → G) (h : ∃ x0 x1 x2 x3 x4, A0 x0 x1 x2 x3 x4 ∧ A1 x0 x1 x2 x3 x4 ∧ A2 x0 x1 x2 x3 x4 ∧ A3 x0 x1 x2 x3 x4 ∧ A4 x0 x1 x2 x3 x4) : G := by
 obtain ⟨x0, x1, x2, x3, x4, a0, a1, a2, a3, a4⟩ := h; exact f x0 x1 x2 x3 x4 a0 a1 a2 a3 a4
theorem OV {α0 : Sort _} {α1 : Sort _} {α2 : Sort _} {α3 : Sort _} {α4 : Sort _} {α5 : Sort _} {α6 : Sort _} {A0 A1 : α0 → α1 → α2 → α3 → α4 → α5 → α6 → Prop} (f : ∀ x0 x1 x2 x3 x4 x5 x6, A0 x0 x1 x2 x3 x4 x5 x6 → A1 x0 x1 x2 x3 x4 x5 x6 → G) (h : ∃ x0 x1 x2 x3 x4 x5 x6, A0 x0 x1 x2 x3 x4 x5 x6 ∧ A1 x0 x1 x2 x3 x4 x5 x6) : G := by
 obtain ⟨x0, x1, x2, x3, x4, x5, x6, a0, a1⟩ := h; exact f x0 x1 x2 x3 x4 x5 x6 a0 a1
theorem QN {α0 : Sort _} {α1 : Sort _} {α2 : Sort _} {α3 : Sort _} {α4 : Sort _} {α5 : Sort _} {α6 : Sort _} {A0 A1 A2 A3 A4 A5 A6 : α0 → α1 → α2 → α3 → α4 → α5 → α6 → Prop} (f : ∀ x0 x1 x2 x3 x4 x5 x6, A0 x0 x1 x2 x3 x4 x5 x6 → A1 x0 x1 x2 x3 x4 x5 x6 → A2 x0 x1 x2 x3 x4 x5 x6 → A3 x0 x1 x2 x3 x4 x5 x6 → A4 x0 x1 x2 x3 x4 x5 x6 → A5 x0 x1 x2 x3 x4 x5 x6 → A6 x0 x1 x2 x3 x4 x5 x6 → G) (h : ∃ x0 x1 x2 x3 x4 x5 x6, A0 x0 x1 x2 x3 x4 x5 x6 ∧ A1 x0 x1 x2 x3 x4 x5 x6 ∧ A2 x0 x1 x2 x3 x4 x5 x6 ∧ A3 x0 x1 x2 x3 x4 x5 x6 ∧ A4 x0 x1 x2 x3 x4 x5 x6 ∧ A5 x0 x1 x2 x3 x4 x5 x6 ∧ A6 x0 x1 x2 x3 x4 x5 x6) : G := by
 obtain ⟨x0, x1, x2, x3, x4, x5, x6, a0, a1, a2, a3, a4, a5, a6⟩ := h; exact f x0 x1 x2 x3 x4 x5 x6 a0 a1 a2 a3 a4 a5 a6
abbrev QV := Value → Shared → Prop
variable {E R : QV}
inductive PV where
 | none
 | bool (b : Bool)
 | int (i : Int)
 | str (l : List Nat)
 | val (v : Value)
 | ref (a : Addr)
 | tup (ps : List PV)
 | lst (ps : List PV)
 | dic (ks : List Int) (ps : List PV)
 | ins (C : Addr) (xs : List Str) (ps : List PV)
 | lam (params : Arguments) (body : PySem.Expr) (scope : Scope)
 | sli (lo hi st : Option Int)
 | exc (cls : String) (l : List Nat)
 | obj (C d : Addr)
variable {ps qs dr outs acc ps' mp : List PV} {p q p1 p2 kv p3 cv p4 px hv pa pk pf pm : PV} {ks bs : List (Str × PV)} {pdue phi pta : Option PV}
inductive Nc : List Int → List Value → List DictEntry → Prop
 | nil : Nc [] [] []
 | cons {k t v ks vs es : _} : Nc ks vs es → Nc (k :: ks) (v :: vs) (⟨hashInt k, .int k t, v⟩ :: es)
inductive Es : List Str → List Value → List DictEntry → Prop
 | nil : Es [] [] []
 | cons {x v g t xs vs es : _} : Es xs vs es → Es (x :: xs) (v :: vs) (⟨g, .str x t, v⟩ :: es)
abbrev Ib (vs : List Value) (n : Nat) : Obj := { cls := .type "tuple", data := .seq vs.toArray n }
abbrev Bh (vs : List Value) (n : Nat) : Obj := { cls := .type "list", data := .seq vs.toArray n }
noncomputable abbrev Mt (params : Arguments) (body : PySem.Expr) (scope : Scope) (qual : Str) (pm ctv doc : Value) (c : Addr) : Obj :=
 { cls := .type "function", data := .func { fnX "<lambda>" qual params [] scope [] .none .none doc pm none (.ref c) ctv with body := .expr body } }
mutual
def Aj (D : List Addr) (h : Heap) : PV → Value → Prop
 | .none, v => v = .none
 | .bool b, v => v = .bool b
 | .int i, v => ∃ t, v = .int i t
 | .str l, v => l.length ≤ sizeLine ∧ ∃ t, v = .str ⟨l.toArray⟩ t
 | .val x, v => v = x
 | .ref a, v => v = .ref a
 | .tup ps, v => ∃ a vs n, v = .ref a ∧ (h.get? a = some (Ib vs n) ∧ a ∉ D) ∧ Ae D h ps vs
 | .lst ps, v => ∃ a vs n, v = .ref a ∧ (h.get? a = some (Bh vs n) ∧ a ∉ D) ∧ Ae D h ps vs
 | .dic ks ps, v => ∃ a vs es n, v = .ref a ∧ (h.get? a = some (dictOf es n) ∧ a ∉ D) ∧ Nc ks vs es ∧ Ae D h ps vs
 | .ins C xs ps, v => ∃ a d es n vs, v = .ref a ∧ (h.get? a = some (instObj C d) ∧ a ∉ D) ∧ (h.get? d = some (dictOf es n) ∧ d ∉ D) ∧ Es xs vs es ∧ Ae D h ps vs
 | .lam params body scope, v => ∃ a c co qual pm ctv doc vs t, v = .ref a ∧ (h.get? a = some (Mt params body scope qual pm ctv doc c) ∧ a ∉ D) ∧ (h.get? c = some co ∧ c ∉ D) ∧ co.data = .fields vs ∧ vs[1]? = some (.str qual t)
 | .sli lo hi st, v => ∃ a vl vu vs, v = .ref a ∧ (h.get? a = some { cls := .type "slice", data := .fields #[vl, vu, vs] } ∧ a ∉ D) ∧ IsPart vl lo ∧ IsPart vu hi ∧ IsPart vs st
 | .exc cls l, v => ∃ a o vs t ot n u, v = .ref a ∧ (h.get? a = some o ∧ a ∉ D) ∧ o.cls = .type cls ∧ o.data = .fields vs ∧ vs[0]? = some (.ref t) ∧ (h.get? t = some ot ∧ t ∉ D) ∧ ot.cls = .type "tuple" ∧ ot.data = .seq #[.str ⟨l.toArray⟩ u] n
 | .obj C d, v => ∃ a, v = .ref a ∧ (h.get? a = some (instObj C d) ∧ a ∉ D)
def Ae (D : List Addr) (h : Heap) : List PV → List Value → Prop
 | [], vs => vs = []
 | p :: ps, vs => ∃ v r, vs = v :: r ∧ Aj D h p v ∧ Ae D h ps r
end
def Kp (D D' : List Addr) (h h' : Heap) : Prop := ∀ a o, h.get? a = some o → a ∉ D → h'.get? a = some o ∧ a ∉ D'
theorem Kp.trans {D'' : List Addr} {h'' : Heap} (x : Kp D D' h h') (y : Kp D' D'' h' h'') : Kp D D'' h h'' :=
 fun a o e n => let ⟨e', n'⟩ := x a o e n; y a o e' n'
mutual
theorem Aj.kp {D D' : List Addr} {h h' : Heap} (k : Kp D D' h h') : ∀ {p : PV} {v : Value}, Aj D h p v → Aj D' h' p v
 | .none, _, x => x
 | .bool _, _, x => x
 | .int _, _, x => x
 | .str _, _, x => x
 | .val _, _, x => x
 | .ref _, _, x => x
 | .tup _, _, x => BZ (fun a vs n e ho r => Exists.intro a ⟨vs, n, e, k _ _ ho.1 ho.2, Ae.kp k r⟩) x
 | .lst _, _, x => BZ (fun a vs n e ho r => Exists.intro a ⟨vs, n, e, k _ _ ho.1 ho.2, Ae.kp k r⟩) x
 | .dic _ _, _, x => OR (fun a vs es n e ho d r => Exists.intro a ⟨vs, es, n, e, k _ _ ho.1 ho.2, d, Ae.kp k r⟩) x
 | .ins _ _ _, _, x => OU (fun a d es n vs e ho hd hn r => Exists.intro a ⟨d, es, n, vs, e, k _ _ ho.1 ho.2, k _ _ hd.1 hd.2, hn, Ae.kp k r⟩) x
 | .lam _ _ _, _, x => by
  obtain ⟨a, c, co, qual, pm, ctv, doc, vs, t, e, ho, hc, r⟩ := x
  exact Exists.intro a ⟨c, co, qual, pm, ctv, doc, vs, t, e, k _ _ ho.1 ho.2, k _ _ hc.1 hc.2, r⟩
 | .sli _ _ _, _, x => OQ (fun a vl vu vs e ho r => Exists.intro a ⟨vl, vu, vs, e, k _ _ ho.1 ho.2, r⟩) x
 | .exc _ _, _, x => QN (fun a o vs t ot n u e ho h1 h2 h3 ht r => Exists.intro a ⟨o, vs, t, ot, n, u, e, k _ _ ho.1 ho.2, h1, h2, h3, k _ _ ht.1 ht.2, r⟩) x
 | .obj _ _, _, x => Ar (fun a e ho => Exists.intro a ⟨e, k _ _ ho.1 ho.2⟩) x
theorem Ae.kp {D D' : List Addr} {h h' : Heap} (k : Kp D D' h h') : ∀ {ps : List PV} {vs : List Value}, Ae D h ps vs → Ae D' h' ps vs
 | [], _, x => x
 | _ :: _, _, x => Bv (fun v r e x1 x2 => Exists.intro v ⟨r, e, Aj.kp k x1, Ae.kp k x2⟩) x
end
theorem Ae.nil : Ae D h [] [] := rfl
theorem Ae.cons {vs : List Value} (x : Aj D h p v) (y : Ae D h ps vs) : Ae D h (p :: ps) (v :: vs) := by
 exact Exists.intro v ⟨vs, rfl, x, y⟩
theorem Ae.nil_inv {vs : List Value} (x : Ae D h [] vs) : vs = [] := x
theorem Ae.cons_inv {vs : List Value} (x : Ae D h (p :: ps) vs) : ∃ v r, vs = v :: r ∧ Aj D h p v ∧ Ae D h ps r := x
theorem Ae.nil_el {vs : List Value} (x : Ae D h [] vs) (k : P []) : P vs := by rw [x.nil_inv]; exact k
theorem Ae.cons_el {vs : List Value} (x : Ae D h (p :: ps) vs) (k : ∀ v r, Aj D h p v → Ae D h ps r → P (v :: r)) : P vs := by
 obtain ⟨v, r, e, x, y⟩ := x.cons_inv; rw [e]; exact k v r x y
theorem Ae.length : ∀ {ps : List PV} {vs : List Value}, Ae D h ps vs → vs.length = ps.length
 | [], _, x => by rw [x.nil_inv]; rfl
 | _ :: _, _, x => by obtain ⟨v, r, rfl, _, y⟩ := x.cons_inv; simp [y.length]
theorem Ae.append : ∀ {ps qs : List PV} {vs ws : List Value}, Ae D h ps vs → Ae D h qs ws → Ae D h (ps ++ qs) (vs ++ ws)
 | [], _, _, _, x, y => by rw [x.nil_inv]; exact y
 | _ :: _, _, _, _, x, y => by obtain ⟨v, r, rfl, x1, x2⟩ := x.cons_inv; exact .cons x1 (x2.append y)
theorem Ae.get : ∀ {ps : List PV} {vs : List Value}, Ae D h ps vs → ∀ {i : Nat} {p : PV}, ps[i]? = some p → ∃ v, vs[i]? = some v ∧ Aj D h p v
 | [], _, _, i, p, e => by simp at e
 | q :: ps, _, x, 0, p, e => by obtain ⟨v, r, rfl, x1, _⟩ := x.cons_inv; simp at e; subst e; exact ⟨v, rfl, x1⟩
 | q :: ps, _, x, i + 1, p, e => by obtain ⟨v, r, rfl, _, x2⟩ := x.cons_inv; simpa using x2.get (by simpa using e)
theorem Ae.get' : ∀ {ps : List PV} {vs : List Value}, Ae D h ps vs → ∀ {i : Nat} {v : Value}, vs[i]? = some v → ∃ p, ps[i]? = some p ∧ Aj D h p v
 | [], _, x, i, p, e => by rw [x.nil_inv] at e; simp at e
 | q :: ps, _, x, 0, p, e => by obtain ⟨v, r, rfl, x1, _⟩ := x.cons_inv; simp at e; subst e; exact ⟨q, rfl, x1⟩
 | q :: ps, _, x, i + 1, p, e => by obtain ⟨v, r, rfl, _, x2⟩ := x.cons_inv; simpa using x2.get' (by simpa using e)
inductive AO where
 | list (ps : List PV)
 | tab (c : Addr) (qual : Str)
 | attrs (xs : List Str) (ps : List PV)
variable {o' : AO}
abbrev Ai := List (Addr × AO)
variable {L L' L1 L₀ L'' L2 : Ai} {Qt Qf : Ai → Prop}
abbrev QE := PV → Ai → Prop
variable {Q Qr Q' : QE}
noncomputable def dom (L : Ai) : List Addr := L.map (·.1)
def dz (L : Ai) (Z : List Addr) : List Addr := dom L ++ Z
def BC (h : Heap) (D : List Addr) (qual : Str) : List Value → Prop
 | _ :: _ :: c :: r => (∃ a co vs t, c = .ref a ∧ h.get? a = some co ∧ a ∉ D ∧ co.data = .fields vs ∧ vs[1]? = some (.str qual t)) ∧ BC h D qual r
 | _ => True
def BP (D : List Addr) (h : Heap) (a : Addr) : AO → Prop
 | .list ps => ∃ vs n, h.get? a = some (Bh vs n) ∧ Ae D h ps vs
 | .tab c qual => ∃ tps, h.get? a = some (tabObj tps) ∧ CodeHd h c a ∧ c ∉ D ∧ TriplesOk tps.toList ∧ BC h D qual tps.toList
 | .attrs xs ps => ∃ es n vs, h.get? a = some (dictOf es n) ∧ Es xs vs es ∧ Ae D h ps vs
structure Cx where
 prog : Program
 w : World
 h₀ : Heap
 os₀ : OsState
 mg : Str → Option Value
 mb : Str → Option Value
 g : h₀.Ns mainGlobals mg
 b : h₀.Ns builtinsNs mb
 nolimit : h₀.NoLimit
variable {X : Cx}
abbrev Cx.M (X : Cx) : Model := model X.prog X.w
def Lo (D : List Addr) (h : Heap) : Option Value → Prop
 | none => True
 | some v => ∃ x o vs, v = .ref x ∧ h.get? x = some o ∧ x ∉ D ∧ o.data = .fields vs ∧ vs[2]? = some .none
structure Hp (X : Cx) (H : Option Value) (Z : List Addr) (L : Ai) (s : Shared) : Prop where
 keep : ∀ b o, X.h₀.get? b = some o → s.heap.get? b = some o
 os : s.os = X.os₀
 bare : AllBare s.gens
 led : ∀ x ∈ L, BP (dz L Z) s.heap x.1 x.2
 nodup : (dom L).Nodup
 fresh : ∀ a ∈ dz L Z, X.h₀.get? a = none
 apart : ∀ a ∈ dom L, a ∉ Z
 zone : ∀ a ∈ Z, ∃ o, s.heap.get? a = some o
 held : Lo (dz L Z) s.heap H
structure BF (L L' : Ai) (s s' : Shared) : Prop where
 heap : ∀ a o, s.heap.get? a = some o → a ∉ dom L → s'.heap.get? a = some o ∧ a ∉ dom L'
 gens : ∀ (g : Nat) (x : GenState), s.gens[g]? = some x → s'.gens[g]? = some x
 live : ∀ a o, s.heap.get? a = some o → ∃ o', s'.heap.get? a = some o'
theorem BF.refl (L : Ai) (s : Shared) : BF L L s s := ⟨fun _ _ e n => ⟨e, n⟩, fun _ _ e => e, fun _ o e => ⟨o, e⟩⟩
theorem BF.trans (x : BF L L' s s') (y : BF L' L'' s' s'') : BF L L'' s s'' :=
 ⟨fun a o e n => let ⟨e', n'⟩ := x.heap a o e n; y.heap a o e' n', fun g z e => y.gens g z (x.gens g z e), fun a o e => let ⟨o', e'⟩ := x.live a o e; y.live a o' e'⟩
theorem BF.kp (Z : List Addr) (x : BF L L' s s') : Kp (dz L Z) (dz L' Z) s.heap s'.heap := fun a o e n => by
 have := x.heap a o e (fun hm => n (mem_append_left _ hm))
 exact ⟨this.1, fun hm => (List.mem_append.mp hm).elim this.2 fun hz => n (mem_append_right _ hz)⟩
theorem BF.keeps (k : Keeps s s') : BF L L s s' := by
 obtain ⟨h', tk, rfl, hk⟩ := k
 exact ⟨fun a o e n => ⟨hk a o e, n⟩, fun _ _ e => e, fun a o e => ⟨o, hk a o e⟩⟩
theorem Aj.ext (x : Aj (dz L Z) s.heap p v) (k : BF L L' s s') : Aj (dz L' Z) s'.heap p v := x.kp (k.kp Z)
theorem Ae.ext {p : List PV} {v : List Value} (x : Ae (dz L Z) s.heap p v) (k : BF L L' s s') : Ae (dz L' Z) s'.heap p v := x.kp (k.kp Z)
theorem AX {x : Addr × AO} (h : x ∈ L) : x.1 ∈ dom L := mem_map_of_mem h
theorem M5 {x : Addr × AO} (h : x ∈ L) : x.1 ∈ dz L Z := mem_append_left _ (AX h)
theorem BP.has {o : AO} (x : BP D h a o) : ∃ ob, h.get? a = some ob := by
 cases o with
 | list ps => obtain ⟨vs, n, e, _⟩ := x; exact ⟨_, e⟩
 | tab c q => obtain ⟨tps, e, _⟩ := x; exact ⟨_, e⟩
 | attrs xs ps => obtain ⟨es, n, vs, e, _⟩ := x; exact ⟨_, e⟩
theorem Hp.lt (P : Hp X H Z L s) (h : a ∈ dz L Z) : a < s.heap.objs.size := by
 rcases List.mem_append.mp h with h | h
 ·obtain ⟨x, hx, rfl⟩ := List.mem_map.mp h
  obtain ⟨ob, e⟩ := (P.led x hx).has
  exact lt_size e
 ·obtain ⟨ob, e⟩ := P.zone a h
  exact lt_size e
theorem Hp.new (P : Hp X H Z L s) (h : s.heap.objs.size ≤ a) : a ∉ dz L Z := fun hm => lt_irrefl _ (lt_of_lt_of_le (P.lt hm) h)
theorem Hp.base (P : Hp X H Z L s) {b : Addr} {o : Obj} (e : X.h₀.get? b = some o) : b ∉ dz L Z := fun hm => by
 rw [P.fresh b hm] at e; cases e
theorem BC.kp (k : Kp D D' h h') : ∀ {l : List Value}, BC h D qual l → BC h' D' qual l
 | [], _ => trivial
 | [_], _ => trivial
 | [_, _], _ => trivial
 | _ :: _ :: c :: r, x => by
  obtain ⟨⟨a, co, vs, t, e, ho, hn, hd, hv⟩, y⟩ := x
  have := k a co ho hn
  exact ⟨⟨a, co, vs, t, e, this.1, this.2, hd, hv⟩, BC.kp k y⟩
theorem Hl {c P : Addr} (k : Kp D D' h h') (hc : c ∉ D) (x : CodeHd h c P) : CodeHd h' c P := by
 obtain ⟨o, vs, file, tf, flags, tg, inF, text, tt, e, cls, r⟩ := x
 exact ⟨o, vs, file, tf, flags, tg, inF, text, tt, (k c o e hc).1, cls, r⟩
theorem KF {c P : Addr} (k : Kp D D' h h') (hc : c ∉ D) (x : CodeHd h c P) : c ∉ D' := by
 obtain ⟨o, _, _, _, _, _, _, _, _, e, _⟩ := x
 exact (k c o e hc).2
theorem BP.kp {o : AO} (k : Kp D D' h h') (hs : ∀ ob, h.get? a = some ob → h'.get? a = some ob) (x : BP D h a o) : BP D' h' a o := by
 cases o with
 | list ps => obtain ⟨vs, n, e, r⟩ := x; exact ⟨vs, n, hs _ e, r.kp k⟩
 | tab c q => obtain ⟨tps, e, hd, hc, ht, hk⟩ := x; exact ⟨tps, hs _ e, Hl k hc hd, KF k hc hd, ht, hk.kp k⟩
 | attrs xs ps => obtain ⟨es, n, vs, e, r, V⟩ := x; exact ⟨es, n, vs, hs _ e, r, V.kp k⟩
theorem Lo.kp (k : Kp D D' h h') (x : Lo D h H) : Lo D' h' H := by
 cases H with
 | none => trivial
 | some v => obtain ⟨x, o, vs, e, ho, hn, r⟩ := x; exact ⟨x, o, vs, e, (k x o ho hn).1, (k x o ho hn).2, r⟩
theorem Hp.keeps (P : Hp X H Z L s) (k : Keeps s s') : Hp X H Z L s' := by
 obtain ⟨h', tk, rfl, hk⟩ := k
 have kp : Kp (dz L Z) (dz L Z) s.heap h' := fun a o e n => ⟨hk a o e, n⟩
 exact ⟨fun b o e => hk b o (P.keep b o e), P.os, P.bare, fun x hx => BP.kp kp (hk _) (P.led x hx), P.nodup, P.fresh, P.apart, fun a ha => let ⟨o, e⟩ := P.zone a ha; ⟨o, hk _ _ e⟩, P.held.kp kp⟩
theorem Lz {P : Nat → Prop} {x : Nat} (h1 : P x) : ∀ b ∈ [x], P b := List.forall_mem_cons.mpr ⟨h1, forall_mem_nil _⟩
theorem Ev {P : Nat → Prop} {x : Nat} (h1 : P x) (h2 : P y) : ∀ b ∈ [x, y], P b := List.forall_mem_cons.mpr ⟨h1, List.forall_mem_cons.mpr ⟨h2, forall_mem_nil _⟩⟩
theorem K6 {P : Nat → Prop} {x : Nat} (h1 : P x) (h2 : P y) (h3 : P z) : ∀ b ∈ [x, y, z], P b := List.forall_mem_cons.mpr ⟨h1, Ev h2 h3⟩
theorem Pe {P : Nat → Prop} {x w : Nat} (h1 : P x) (h2 : P y) (h3 : P z) (h4 : P w) : ∀ b ∈ [x, y, z, w], P b := List.forall_mem_cons.mpr ⟨h1, K6 h2 h3 h4⟩
theorem RE {a x : Nat} (h1 : a ≠ x) (h2 : a ≠ y) (h3 : a ≠ z) : a ∉ [x, y, z] := fun q => K6 (P := fun b => a ≠ b) h1 h2 h3 a q rfl
theorem LA {P : Nat → Prop} {x w v : Nat} (h1 : P x) (h2 : P y) (h3 : P z) (h4 : P w) (h5 : P v) : ∀ b ∈ [x, y, z, w, v], P b := List.forall_mem_cons.mpr ⟨h1, Pe h2 h3 h4 h5⟩
abbrev AU := List (Option PV)
variable {m m' m₀ : AU}
abbrev QS := AU → Ai → Prop
variable {Qb Qc Qn : QS}
abbrev Nm := List (Str × NameKind)
variable {nm ns : Nm}
def Da (X : Cx) (x : Str) (v : Value) : Prop := X.mg x = some v ∨ (X.mg x = none ∧ X.mb x = some v)
def HE (X : Cx) (env : Env) (D : List Addr) (h : Heap) (x : Str) : NameKind → PV → Prop
 | .local, p => ∃ mv v, h.Ns env.locals mv ∧ mv x = some v ∧ Aj D h p v
 | .cell, p => ∃ c v, env.cells.lookup x = some c ∧ h.IsCell c (some v) ∧ Aj D h p v
 | .free, p => ∃ c v, env.cells.lookup x = some c ∧ h.IsCell c (some v) ∧ Aj D h p v
 | .globalImplicit, p => ∃ v, p = .val v ∧ Da X x v
 | .globalExplicit, _ => False
structure A8 (env : Env) (nm : Nm) : Prop where
 kind : env.scope.kind = .function
 globals : env.globals = mainGlobals
 builtins : env.builtins = builtinsNs
 names : ∀ x k, (x, k) ∈ nm → (env.kindOf x = some k ∨ (k = .free ∧ env.kindOf x = some .cell)) ∧ (x == ("__debug__" : Str)) = false ∧ (x == ("__classdict__" : Str)) = false
 cells : ∀ x k, (x, k) ∈ nm → k = .cell ∨ k = .free → ∃ c, env.cells.lookup x = some c
 nodup : (nm.map (·.1)).Nodup
 cinj : ∀ x y c, env.cells.lookup x = some c → env.cells.lookup y = some c → x = y
structure Fm (X : Cx) (H : Option Value) (Z : List Addr) (env : Env) (nm : Nm) (m : AU) (L : Ai) (s : Shared) : Prop where
 hp : Hp X H Z L s
 ok : A8 env nm
 vals : ∀ x k p, ((x, k), some p) ∈ nm.zip m → HE X env (dz L Z) s.heap x k p
 nsx : ∃ mv, s.heap.Ns env.locals mv
 lz : env.locals ∈ Z
 cz : ∀ x c, env.cells.lookup x = some c → c ∈ Z ∧ c ≠ env.locals ∧ ∃ v, s.heap.IsCell c v
theorem HE.kp {k : NameKind} (kp : Kp D D' h h')
  (hl : ∀ o, h.get? env.locals = some o → h'.get? env.locals = some o) (hc : ∀ c o, env.cells.lookup x = some c → h.get? c = some o → h'.get? c = some o) (N : HE X env D h x k p) : HE X env D' h' x k p := by
 cases k with
 | «local» =>
  refine Bv (fun mv v o₀2 e V => ?_) <| N; obtain ⟨o, es, ep, ho, r⟩ := o₀2
  exact ⟨mv, v, ⟨o, es, ep, hl _ ho, r⟩, e, V.kp kp⟩
 | cell => refine Bv (fun c v e o₀3 V => ?_) <| N; obtain ⟨o, ho, hd⟩ := o₀3; exact ⟨c, v, e, ⟨o, hc c o e ho, hd⟩, V.kp kp⟩
 | free => refine Bv (fun c v e o₀3 V => ?_) <| N; obtain ⟨o, ho, hd⟩ := o₀3; exact ⟨c, v, e, ⟨o, hc c o e ho, hd⟩, V.kp kp⟩
 | globalImplicit => exact N
 | globalExplicit => exact N.elim
theorem Fm.ext (F : Fm X H Z env nm m L s) (k : BF L L' s s') (P : Hp X H Z L' s') : Fm X H Z env nm m L' s' := by
 have zk : ∀ a ∈ Z, ∀ o, s.heap.get? a = some o → s'.heap.get? a = some o := fun a ha o e => (k.heap a o e fun hm => F.hp.apart a hm ha).1
 refine ⟨P, F.ok, fun x kd p hm => ?_, ?_, F.lz, fun x c e => ?_⟩
 ·exact (F.vals x kd p hm).kp (k.kp Z) (fun o e => zk _ F.lz o e) fun c o e ho => zk _ (F.cz x c e).1 o ho
 ·refine DD (fun mv o es ep ho r => ?_) <| F.nsx
  exact ⟨mv, o, es, ep, zk _ F.lz o ho, r⟩
 ·obtain ⟨hz, hne, v, o, ho, hd⟩ := F.cz x c e
  exact ⟨hz, hne, v, o, zk _ hz o ho, hd⟩
theorem Fm.keeps (F : Fm X H Z env nm m L s) (k : Keeps s s') : Fm X H Z env nm m L s' := F.ext (.keeps k) (F.hp.keeps k)
structure B9 (env : Env) (nm : Nm) (L L' : Ai) (s s' : Shared) : Prop where
 heap : ∀ a o, s.heap.get? a = some o → a ∉ dom L → a ≠ env.locals → (∀ x, (x, NameKind.cell) ∈ nm → env.cells.lookup x ≠ some a) → s'.heap.get? a = some o ∧ a ∉ dom L'
 gens : ∀ (g : Nat) (x : GenState), s.gens[g]? = some x → s'.gens[g]? = some x
 live : ∀ a o, s.heap.get? a = some o → ∃ o', s'.heap.get? a = some o'
theorem B9.refl (env : Env) (nm : Nm) (L : Ai) (s : Shared) : B9 env nm L L s s := ⟨fun _ _ e n _ _ => ⟨e, n⟩, fun _ _ e => e, fun _ o e => ⟨o, e⟩⟩
theorem B9.trans (x : B9 env nm L L' s s') (y : B9 env nm L' L'' s' s'') : B9 env nm L L'' s s'' :=
 ⟨fun a o e n nl nc => let ⟨e', n'⟩ := x.heap a o e n nl nc; y.heap a o e' n' nl nc, fun g z e => y.gens g z (x.gens g z e), fun a o e => let ⟨o', e'⟩ := x.live a o e; y.live a o' e'⟩
theorem BF.toS (x : BF L L' s s') : B9 env nm L L' s s' := ⟨fun a o e n _ _ => x.heap a o e n, x.gens, x.live⟩
theorem B9.kp (F : Fm X H Z env nm m L s) (x : B9 env nm L L' s s') : Kp (dz L Z) (dz L' Z) s.heap s'.heap := fun a o e n => by
 have hz : a ∉ Z := fun hz => n (mem_append_right _ hz)
 have := x.heap a o e (fun hm => n (mem_append_left _ hm)) (fun q => hz (q ▸ F.lz)) (fun y _ q => hz (F.cz y a q).1)
 exact ⟨this.1, fun hm => (List.mem_append.mp hm).elim this.2 hz⟩
def at? {α : Type} (l : List α) : Nat → Option α := List.rec (fun _ => none) (fun a _ ih n => Nat.casesOn n (some a) ih) l
def H5 (l : AU) : Nat → Option PV → AU := List.rec (fun _ _ => []) (fun a l ih n v => Nat.casesOn n (v :: l) fun n => a :: ih n v) l
theorem Je {x : α} : ∀ {l : List α} {i : Nat}, some x = at? l i → x ∈ l
 | _ :: _, 0, h => by cases h; exact .head _
 | _ :: _, _ + 1, h => .tail _ (Je h)
def Lk (ns : Nm) (m : AU) (x : Str) (k : NameKind) (p : PV) : Prop := ((x, k), some p) ∈ ns.zip m
theorem Rn {k : NameKind} : ∀ {ns : Nm} (i : Nat), some (x, k) = at? ns i → ∀ {m : AU} {p : PV}, some (some p) = at? m i → Lk ns m x k p
 | _ :: _, 0, h, _ :: _, _, h' => by cases h; cases h'; exact .head _
 | _ :: _, i + 1, h, _ :: _, _, h' => .tail _ (Rn i h h')
theorem Lk.mem {k : NameKind} (h : Lk ns m x k p) : ((x, k), some p) ∈ ns.zip m := h
def Stn (ns : Nm) (m : AU) (x : Str) (k : NameKind) (p : PV) (m' : AU) : Prop := ∃ i, some (x, k) = at? ns i ∧ m' = H5 m i (some p)
theorem stAt {k : NameKind} (i : Nat) (h : some (x, k) = at? ns i) : Stn ns m x k p (H5 m i (some p)) := ⟨i, h, rfl⟩
theorem Stn.mem {k : NameKind} (h : Stn ns m x k p m') : (x, k) ∈ ns := h.elim fun _ h => Je h.1
theorem Kq {k : NameKind} : ∀ {ns : Nm} {m : AU} (i : Nat), some (x, k) = at? ns i → (ns.map (·.1)).Nodup →
  ∀ y ky q, ((y, ky), some q) ∈ ns.zip (H5 m i (some p)) → (y = x ∧ ky = k ∧ q = p) ∨ (y ≠ x ∧ ((y, ky), some q) ∈ ns.zip m)
 | _ :: ns, _ :: m, 0, h, nd, y, ky, q, hm => by
  cases h
  rcases List.mem_cons.mp hm with e | hm
  ·cases e; exact .inl ⟨rfl, rfl, rfl⟩
  ·exact .inr ⟨fun e => (List.nodup_cons.mp nd).1 (e ▸ mem_map_of_mem (f := (·.1)) (of_mem_zip hm).1), .tail _ hm⟩
 | z :: ns, _ :: m, i + 1, h, nd, y, ky, q, hm => by
  rcases List.mem_cons.mp hm with e | hm
  ·refine .inr ⟨fun e' => (List.nodup_cons.mp nd).1 ?_, e ▸ .head _⟩
   have h1 : (x, k) ∈ ns := Je h
   rw [show z = (y, ky) from (Prod.mk.inj e).1.symm, e']; exact mem_map_of_mem (f := (·.1)) h1
  ·exact (Kq i h (List.nodup_cons.mp nd).2 y ky q hm).imp id fun h => ⟨h.1, .tail _ h.2⟩
theorem Stn.inv {k : NameKind} (h : Stn ns m x k p m') (nd : (ns.map (·.1)).Nodup) :
  ∀ y ky q, ((y, ky), some q) ∈ ns.zip m' → (y = x ∧ ky = k ∧ q = p) ∨ (y ≠ x ∧ ((y, ky), some q) ∈ ns.zip m) := by
 obtain ⟨i, h1, rfl⟩ := h
 exact Kq i h1 nd
theorem DY {m m' : Str → Option Value} (x : h.Ns a m) (y : h.Ns a m') : m = m' := by
 refine Nd (fun o es ep e1 e2 _ e3 => ?_) <| x
 refine Nd (fun o' es' ep' f1 f2 _ f3 => ?_) <| y
 rw [e1] at f1; cases f1
 rw [e2] at f2; cases f2
 funext n; rw [← e3, ← f3]
theorem Fm.write (F : Fm X H Z env nm m L s) (ha : a ∈ Z) (hs : Heap.SameBut a s.heap h') (ho : ∃ o, h'.get? a = some o)
  : Hp X H Z L { s with heap := h', toks := tk } ∧ Kp (dz L Z) (dz L Z) s.heap h' := by
 have kp : Kp (dz L Z) (dz L Z) s.heap h' := fun b o e n => ⟨(hs.2 b (fun q => n (mem_append_right _ (q ▸ ha)))).trans e, n⟩
 refine ⟨⟨fun b o e => (hs.2 b (fun q => ?_)).trans (F.hp.keep b o e), F.hp.os, F.hp.bare, fun x hx => BP.kp kp (fun ob e => (hs.2 _ (fun q => F.hp.apart _ (AX hx) (by rw [q]; exact ha))).trans e) (F.hp.led x hx), F.hp.nodup, F.hp.fresh, F.hp.apart,
  fun b hb => ?_, F.hp.held.kp kp⟩, kp⟩
 ·exact F.hp.base e (mem_append_right _ (q ▸ ha))
 ·by_cases q : b = a
  ·subst q; exact ho
  ·refine Ao (fun o e => ?_) <| F.hp.zone b hb
   exact ⟨o, (hs.2 b q).trans e⟩
theorem Fm.store {k : NameKind} {Q : Unit → Shared → Prop} (F : Fm X H Z env nm m L s) (S : Stn nm m x k p m') (hk : k = .local ∨ k = .cell) (V : Aj (dz L Z) s.heap p v)
  (h : ∀ s', Fm X H Z env nm m' L s' → B9 env nm L L s s' → Q () s') : wpAny X.M A (storeName env x v) Q E s := by
 have hkd : env.kindOf x = some k := by
  rcases (F.ok.names x k S.mem).1 with e | ⟨e, _⟩
  ·exact e
  ·rcases hk with q | q <;> rw [q] at e <;> cases e
 rcases hk with rfl | rfl
 ·refine Ao (fun mv hn => ?_) <| F.nsx
  refine wpAny_storeName_local hkd hn (fun h' hn' hs => h _ ?_ ?_) (by rw [F.ok.kind]; rfl)
  ·refine Av (fun P kp => ?_) <| F.write (tk := s.toks + 1) F.lz hs (let ⟨o, _, _, e, _⟩ := hn'; ⟨o, e⟩)
   have ck : ∀ y c o, env.cells.lookup y = some c → s.heap.get? c = some o → h'.get? c = some o := fun y c o e ho => (hs.2 c (F.cz y c e).2.1).trans ho
   refine ⟨P, F.ok, fun y ky q hm => ?_, ⟨_, hn'⟩, F.lz, fun y c e => ?_⟩
   ·rcases S.inv F.ok.nodup y ky q hm with ⟨rfl, rfl, rfl⟩ | ⟨hne, hm'⟩
    ·exact ⟨_, v, hn', by simp, V.kp kp⟩
    ·have N := F.vals y ky q hm'
     cases ky with
     | «local» =>
      refine Bv (fun mv' v' hn2 e2 V2 => ?_) <| N
      rw [DY hn2 hn] at e2
      exact ⟨_, v', hn', by rw [if_neg hne]; exact e2, V2.kp kp⟩
     | cell => refine Bv (fun c v' e o₀3 V2 => ?_) <| N; obtain ⟨o, ho, hd⟩ := o₀3; exact ⟨c, v', e, ⟨o, ck y c o e ho, hd⟩, V2.kp kp⟩
     | free => refine Bv (fun c v' e o₀3 V2 => ?_) <| N; obtain ⟨o, ho, hd⟩ := o₀3; exact ⟨c, v', e, ⟨o, ck y c o e ho, hd⟩, V2.kp kp⟩
     | globalImplicit => exact N
     | globalExplicit => exact N.elim
   ·obtain ⟨hz, hne, v', o, ho, hd⟩ := F.cz y c e
    exact ⟨hz, hne, v', o, ck y c o e ho, hd⟩
  ·refine ⟨fun a o e n nl _ => ⟨(hs.2 a nl).trans e, n⟩, fun _ _ e => e, fun a o e => ?_⟩
   by_cases q : a = env.locals
   ·refine CQ (fun o' _ _ e' _ => ?_) <| hn'; exact ⟨o', q ▸ e'⟩
   ·exact ⟨o, (hs.2 a q).trans e⟩
 ·refine Ao (fun c hc => ?_) <| F.ok.cells x .cell S.mem (.inl rfl)
  obtain ⟨hcz, hcl, v₀, hcell⟩ := F.cz x c hc
  refine wpAny_storeName_cell F.ok.kind hkd hc hcell fun h' hc' hs => h _ ?_ ?_
  ·refine Av (fun P kp => ?_) <| F.write (tk := s.toks) hcz hs (let ⟨o, e, _⟩ := hc'; ⟨o, e⟩)
   have lk : ∀ o, s.heap.get? env.locals = some o → h'.get? env.locals = some o := fun o e => (hs.2 _ (Ne.symm hcl)).trans e
   have ck : ∀ y d o, y ≠ x → env.cells.lookup y = some d → s.heap.get? d = some o → h'.get? d = some o := fun y d o hne e ho => (hs.2 d (fun q => hne (F.ok.cinj y x c (q ▸ e) hc))).trans ho
   refine ⟨P, F.ok, fun y ky q hm => ?_, ?_, F.lz, fun y d e => ?_⟩
   ·rcases S.inv F.ok.nodup y ky q hm with ⟨rfl, rfl, rfl⟩ | ⟨hne, hm'⟩
    ·exact ⟨c, v, hc, hc', V.kp kp⟩
    ·exact (F.vals y ky q hm').kp kp lk fun d o e ho => ck y d o hne e ho
   ·refine DD (fun mv o es ep ho r => ?_) <| F.nsx; exact ⟨mv, o, es, ep, lk o ho, r⟩
   ·obtain ⟨hz, hne, v', o, ho, hd⟩ := F.cz y d e
    refine ⟨hz, hne, ?_⟩
    by_cases q : y = x
    ·subst q; rw [hc] at e; cases e; exact ⟨_, hc'⟩
    ·exact ⟨v', o, ck y d o q e ho, hd⟩
  ·refine ⟨fun a o e n _ nc => ⟨(hs.2 a (fun q => nc x S.mem (q ▸ hc))).trans e, n⟩, fun _ _ e => e, fun a o e => ?_⟩
   by_cases q : a = c
   ·refine Ar (fun o' e' _ => ?_) <| hc'; exact ⟨o', q ▸ e'⟩
   ·exact ⟨o, (hs.2 a q).trans e⟩
theorem Fm.load {k : NameKind} {Q : QV} (F : Fm X H Z env nm m L s) (N : Lk nm m x k p) (h : ∀ v, Aj (dz L Z) s.heap p v → Q v s) : wpAny X.M A (loadName env x) Q E s := by
 have hm := N.mem
 have hk := F.ok.names x k (of_mem_zip hm).1
 have I := F.vals x k p hm
 cases k with
 | «local» =>
  refine Bv (fun mv v hn e V => ?_) <| I
  exact wpAny_loadName_local F.ok.kind (hk.1.elim id fun q => by cases q.1) hn e (h v V)
 | cell =>
  refine Bv (fun c v e hc V => ?_) <| I
  exact wpAny_loadName_cell F.ok.kind (hk.1.elim id fun q => by cases q.1) e hc (h v V)
 | free =>
  refine Bv (fun c v e hc V => ?_) <| I
  rcases hk.1 with q | q
  ·exact wpAny_loadName_free F.ok.kind q e hc (h v V) hk.2.2
  ·exact wpAny_loadName_cell F.ok.kind q.2 e hc (h v V)
 | globalImplicit =>
  refine Ar (fun v e₀1 hg => ?_) <| I; obtain rfl := e₀1
  have hkd : env.kindOf x = some .globalImplicit := hk.1.elim id fun q => by cases q.1
  have : wpAny X.M A (loadGlobal env x) Q E s := by
   have hV : Aj (dz L Z) s.heap (.val v) v := rfl
   rcases hg with e | ⟨e1, e2⟩
   ·exact Calls.loadGlobal_global (F.ok.globals ▸ X.g.keeps F.hp.keep) e (h v hV)
   ·exact Calls.loadGlobal_builtin (F.ok.globals ▸ X.g.keeps F.hp.keep) e1 (F.ok.builtins ▸ X.b.keeps F.hp.keep) e2 (h v hV)
  unfold loadName
  simp only [Env.blockKind, F.ok.kind, hkd, ScopeKind.isAnnotationScope, Bool.false_and, false_eq_true, if_false]
  exact this
 | globalExplicit => exact I.elim
inductive Be (X9 : Cx) (H9 : Option Value) (Z9 : List Addr) (L9 : Ai) (s9 : Shared) (Q9 : QE) (v9 : Value) (s'9 : Shared) : Prop
 | mk (p : PV) (L' : Ai) (q : Q9 p L') (P : Hp X9 H9 Z9 L' s'9) (V : Aj (dz L' Z9) s'9.heap p v9) (e : BF L9 L' s9 s'9)
inductive EX (X9 : Cx) (H9 : Option Value) (Z9 : List Addr) (L9 : Ai) (s9 : Shared) (Q9 : List PV → Ai → Prop) (v9 : List Value) (s'9 : Shared) : Prop
 | mk (p : List PV) (L' : Ai) (q : Q9 p L') (P : Hp X9 H9 Z9 L' s'9) (V : Ae (dz L' Z9) s'9.heap p v9) (e : BF L9 L' s9 s'9)
inductive C4 (X9 : Cx) (H9 : Option Value) (Z9 : List Addr) (L9 : Ai) (s9 : Shared) (Qt9 Qf9 : Ai → Prop) (b9 : Bool) (s'9 : Shared) : Prop
 | mk (L' : Ai) (q : (b9 = true ∧ Qt9 L') ∨ (b9 = false ∧ Qf9 L')) (P : Hp X9 H9 Z9 L' s'9) (e : BF L9 L' s9 s'9)
inductive PF where
 | next | brk | cont
 | ret (p : PV)
structure Ks where
 n : QS
 r : QE
 b : QS
 c : QS
variable {K' : Ks}
def Ks.at (K : Ks) : PF → QS
 | .next, m, L => K.n m L
 | .ret p, _, L => K.r p L
 | .brk, m, L => K.b m L
 | .cont, m, L => K.c m L
def FRel (D : List Addr) (h : Heap) : PF → Flow → Prop
 | .next, f => f = .next
 | .brk, f => f = .brk
 | .cont, f => f = .cont
 | .ret p, f => ∃ v, f = .ret v ∧ Aj D h p v
inductive DA (X9 : Cx) (H9 : Option Value) (Z9 : List Addr) (env9 : Env) (nm9 : Nm) (L9 : Ai) (s9 : Shared) (K9 : Ks) (f9 : Flow) (s'9 : Shared) : Prop
 | mk (pf : PF) (m' : AU) (L' : Ai) (q : K9.at pf m' L') (F : Fm X9 H9 Z9 env9 nm9 m' L' s'9) (r : FRel (dz L' Z9) s'9.heap pf f9) (e : B9 env9 nm9 L9 L' s9 s'9)
section
variable (X : Cx) (A : Around) (env : Env) (nm : Nm)
def WE (m : AU) (t : Sem Value) (L : Ai) (Q : QE) : Prop :=
 ∀ Z s E, Fm X A.handled Z env nm m L s → wpAny X.M A t (Be X A.handled Z L s Q) E s
def WEs (m : AU) (t : Sem (List Value)) (L : Ai) (Q : List PV → Ai → Prop) : Prop :=
 ∀ Z s E, Fm X A.handled Z env nm m L s → wpAny X.M A t (EX X A.handled Z L s Q) E s
def WT (m : AU) (t : Sem Bool) (L : Ai) (Qt Qf : Ai → Prop) : Prop :=
 ∀ Z s E, Fm X A.handled Z env nm m L s → wpAny X.M A t (C4 X A.handled Z L s Qt Qf) E s
def WSk (m : AU) (t : Sem Flow) (L : Ai) (K : Ks) : Prop :=
 ∀ Z s E, Fm X A.handled Z env nm m L s → wpAny X.M A t (DA X A.handled Z env nm L s K) E s
abbrev WS (m : AU) (t : Sem Flow) (L : Ai) (Qn : QS) (Qr : QE) (Qb Qc : QS) : Prop := WSk X A env nm m t L ⟨Qn, Qr, Qb, Qc⟩
end
section
variable (X : Cx) (A : Around)
def Op1 (t : Value → Sem Value) (p : PV) (L : Ai) (Q : QE) : Prop :=
 ∀ Z s E a, Hp X A.handled Z L s → Aj (dz L Z) s.heap p a → wpAny X.M A (t a) (Be X A.handled Z L s Q) E s
def CR (t : Value → Value → Sem Value) (p q : PV) (L : Ai) (Q : QE) : Prop :=
 ∀ Z s E a b, Hp X A.handled Z L s → Aj (dz L Z) s.heap p a → Aj (dz L Z) s.heap q b → wpAny X.M A (t a b) (Be X A.handled Z L s Q) E s
def OpT (p : PV) (L : Ai) (Qt Qf : Ai → Prop) : Prop :=
 ∀ Z s E a, Hp X A.handled Z L s → Aj (dz L Z) s.heap p a → wpAny X.M A (truthy a) (C4 X A.handled Z L s Qt Qf) E s
def Bu (op : CmpOp) (p q : PV) (L : Ai) (Qt Qf : Ai → Prop) : Prop :=
 CR X A (compareOp op) p q L fun r L' => ∃ b, r = .bool b ∧ ((b = true ∧ Qt L') ∨ (b = false ∧ Qf L'))
inductive BO (D9 : List Addr) (h9 : Heap) : List (Str × PV) → List (Str × Value) → Prop
 | nil : BO D9 h9 [] []
 | cons {x p v ps vs : _} : Aj D9 h9 p v → BO D9 h9 ps vs → BO D9 h9 ((x, p) :: ps) ((x, v) :: vs)
def As (f : PV) (ps : List PV) (ks : List (Str × PV)) (L : Ai) (Q : QE) : Prop :=
 ∀ Z s E fv vs kvs, Hp X A.handled Z L s → Aj (dz L Z) s.heap f fv → Ae (dz L Z) s.heap ps vs → BO (dz L Z) s.heap ks kvs → wpAny X.M A (call fv vs kvs) (Be X A.handled Z L s Q) E s
end
theorem BO.kp (k : Kp D D' h h') {ps : List (Str × PV)} {vs : List (Str × Value)} (x : BO D h ps vs) : BO D' h' ps vs := by
 induction x with
 | nil => exact .nil
 | cons v _ ih => exact .cons (v.kp k) ih
theorem Ap {M : Model} {t : Sem α} {R R' : α → Shared → Prop} (h : wpAny M A t R E s) (k : ∀ v s', R v s' → R' v s') : wpAny M A t R' E s := wpAny_mono h k fun _ _ e => e
theorem wv {M : Model} {t : Sem Value} (h : wpAny M A t (Be X H Z L s0 Q) E s) (k : ∀ v s' p L', Q p L' → Hp X H Z L' s' → Aj (dz L' Z) s'.heap p v → BF L L' s0 s' → R v s') : wpAny M A t R E s :=
 wpAny_mono h (fun v s' x => by cases x with | mk p L' q P V e => exact k v s' p L' q P V e) fun _ _ e => e
theorem wvs {M : Model} {t : Sem (List Value)} {Q : List PV → Ai → Prop} {R : List Value → Shared → Prop} (h : wpAny M A t (EX X H Z L s0 Q) E s) (k : ∀ v s' p L', Q p L' → Hp X H Z L' s' → Ae (dz L' Z) s'.heap p v → BF L L' s0 s' → R v s') : wpAny M A t R E s :=
 wpAny_mono h (fun v s' x => by cases x with | mk p L' q P V e => exact k v s' p L' q P V e) fun _ _ e => e
theorem wb {M : Model} {t : Sem Bool} {R : Bool → Shared → Prop} (h : wpAny M A t (C4 X H Z L s0 Qt Qf) E s) (k : ∀ b s' L', (b = true ∧ Qt L') ∨ (b = false ∧ Qf L') → Hp X H Z L' s' → BF L L' s0 s' → R b s') : wpAny M A t R E s :=
 wpAny_mono h (fun v s' x => by cases x with | mk L' q P e => exact k v s' L' q P e) fun _ _ e => e
theorem wst {M : Model} {K : Ks} {t : Sem Flow} {R : Flow → Shared → Prop} (h : wpAny M A t (DA X H Z env nm L s0 K) E s) (k : ∀ f s' pf m' L', K.at pf m' L' → Fm X H Z env nm m' L' s' → FRel (dz L' Z) s'.heap pf f → B9 env nm L L' s0 s' → R f s') : wpAny M A t R E s :=
 wpAny_mono h (fun v s' x => by cases x with | mk p m' L' q F r e => exact k v s' p m' L' q F r e) fun _ _ e => e
theorem Be.after (k : BF L L1 s s1) (x : Be X H Z L1 s1 Q v s') : Be X H Z L s Q v s' := by
 obtain ⟨p, L', q, P, V, e⟩ := x; exact ⟨p, L', q, P, V, k.trans e⟩
theorem C4.after {v : Bool} (k : BF L L1 s s1) (x : C4 X H Z L1 s1 Qt Qf v s') : C4 X H Z L s Qt Qf v s' := by
 obtain ⟨L', q, P, e⟩ := x; exact ⟨L', q, P, k.trans e⟩
theorem DA.after {K : Ks} {v : Flow} (k : B9 env nm L L1 s s1) (x : DA X H Z env nm L1 s1 K v s') : DA X H Z env nm L s K v s' := by
 obtain ⟨p, m', L', q, P, V, e⟩ := x; exact ⟨p, m', L', q, P, V, k.trans e⟩
theorem Be.mono (x : Be X H Z L s Q v s') (k : ∀ p L', Q p L' → Q' p L') : Be X H Z L s Q' v s' := by
 cases x with | mk p L' q P V e => exact ⟨p, L', k p L' q, P, V, e⟩
theorem EX.mono {Q Q' : List PV → Ai → Prop} {v : List Value} (x : EX X H Z L s Q v s') (k : ∀ p L', Q p L' → Q' p L') : EX X H Z L s Q' v s' := by
 cases x with | mk p L' q P V e => exact ⟨p, L', k p L' q, P, V, e⟩
theorem C4.flip {b : Bool} (x : C4 X H Z L s Qt Qf b s') : C4 X H Z L s Qf Qt (!b) s' := by
 cases x with | mk L' q P e => exact ⟨L', q.elim (fun e => .inr ⟨by rw [e.1]; rfl, e.2⟩) (fun e => .inl ⟨by rw [e.1]; rfl, e.2⟩), P, e⟩
theorem C4.elim {P : Bool → Prop} {b : Bool} (x : C4 X H Z L s Qt Qf b s') (h : ∀ L', Qt L' → Hp X H Z L' s' → BF L L' s s' → P true) (h' : ∀ L', Qf L' → Hp X H Z L' s' → BF L L' s s' → P false) : P b := by
 cases x with
 | mk L' q P e =>
  cases q with
  | inl q => rw [q.1]; exact h L' q.2 P e
  | inr q => rw [q.1]; exact h' L' q.2 P e
theorem DA.mono {K : Ks} {f : Flow} (x : DA X H Z env nm L s K f s') (k : ∀ f m' L', K.at f m' L' → K'.at f m' L') : DA X H Z env nm L s K' f s' := by
 cases x with | mk p m' L' q F r e => exact ⟨p, m', L', k _ _ L' q, F, r, e⟩
theorem BF.aft {M : Model} {t : Sem Value} (k : BF L L1 s s1) (h : wpAny M A t (Be X H Z L1 s1 Q) E s2) : wpAny M A t (Be X H Z L s Q) E s2 := Ap h fun _ _ x => x.after k
theorem BF.aftB {M : Model} {t : Sem Bool} (k : BF L L1 s s1) (h : wpAny M A t (C4 X H Z L1 s1 Qt Qf) E s2) : wpAny M A t (C4 X H Z L s Qt Qf) E s2 := Ap h fun _ _ x => x.after k
theorem B9.aft {M : Model} {t : Sem Flow} {K : Ks} (k : B9 env nm L L1 s s1) (h : wpAny M A t (DA X H Z env nm L1 s1 K) E s2) : wpAny M A t (DA X H Z env nm L s K) E s2 := Ap h fun _ _ x => x.after k
theorem Az (s : Shared) (n : Nat) : Keeps s { s with toks := n } := ⟨s.heap, n, rfl, fun _ _ e => e⟩
theorem Ag (s : Shared) : Keeps s s := ⟨s.heap, s.toks, rfl, fun _ _ e => e⟩
theorem A9 (s : Shared) (o : Obj) (n : Nat) : Keeps s { s with heap := s.heap.push o, toks := n } := ⟨_, n, rfl, fun _ _ e => get?_push_of_some _ e⟩
theorem Be.keeps (P : Hp X H Z L s) (k : Keeps s s') (V : Aj (dz L Z) s'.heap p v) (q : Q p L) : Be X H Z L s Q v s' :=
 ⟨p, L, q, P.keeps k, V, .keeps k⟩
theorem C4.keeps {b : Bool} (P : Hp X H Z L s) (k : Keeps s s') (q : (b = true ∧ Qt L) ∨ (b = false ∧ Qf L)) : C4 X H Z L s Qt Qf b s' :=
 ⟨L, q, P.keeps k, .keeps k⟩
theorem AT (i : Int) (t : Tok) : Aj D h (.int i) (.int i t) := Exists.intro t rfl
theorem Bc (b : Bool) : Aj D h (.bool b) (.bool b) := rfl
theorem AS : Aj D h .none .none := rfl
theorem Ic (v : Value) : Aj D h (.val v) v := rfl
theorem E3 (a : Addr) : Aj D h (.ref a) (.ref a) := rfl
theorem DO (x : Str) (t : Tok) (hx : x.length ≤ sizeLine) : Aj D h (.str x.cps.toList) (.str x t) := by
 exact And.intro (by simpa [Str.length] using hx) ⟨t, by simp⟩
theorem FH {i : Int} (x : Aj D h (.int i) v) : ∃ t, v = .int i t := x
theorem BS {b : Bool} (x : Aj D h (.bool b) v) : v = .bool b := x
theorem Dp (x : Aj D h .none v) : v = .none := x
theorem ET (x : Aj D h (.val u) v) : v = u := x
theorem Cw (x : Aj D h (.ref a) v) : v = .ref a := x
theorem HY {l : List Nat} (x : Aj D h (.str l) v) : l.length ≤ sizeLine ∧ ∃ t, v = .str ⟨l.toArray⟩ t := x
theorem FO (x : Aj D h (.tup ps) v) : ∃ a vs n, v = .ref a ∧ (h.get? a = some (Ib vs n) ∧ a ∉ D) ∧ Ae D h ps vs := x
theorem Kb (x : Aj D h (.lst ps) v) : ∃ a vs n, v = .ref a ∧ (h.get? a = some (Bh vs n) ∧ a ∉ D) ∧ Ae D h ps vs := x
theorem Ax {P : Value → Prop} {i : Int} (x : Aj D h (.int i) v) (k : ∀ t, P (.int i t)) : P v := by
 refine Ao (fun t e => ?_) <| FH x; rw [e]; exact k t
theorem Bn {P : Value → Prop} {l : List Nat} (x : Aj D h (.str l) v) (k : l.length ≤ sizeLine → ∀ t, P (.str ⟨l.toArray⟩ t)) : P v := by
 obtain ⟨hl, t, e⟩ := HY x; rw [e]; exact k hl t
theorem AI {P : Value → Prop} (x : Aj D h (.val u) v) (k : P u) : P v := by
 rw [ET x]; exact k
theorem Dd {P : Value → Prop} (x : Aj D h (.tup ps) v) (k : ∀ a vs n, h.get? a = some (Ib vs n) → a ∉ D → Ae D h ps vs → P (.ref a)) : P v := by
 refine BZ (fun a vs n e h1 r => ?_) <| FO x; rw [e]; exact k a vs n h1.1 h1.2 r
theorem J1 {P : Value → Prop} (x : Aj D h (.lst ps) v) (k : ∀ a vs n, h.get? a = some (Bh vs n) → a ∉ D → Ae D h ps vs → P (.ref a)) : P v := by
 refine BZ (fun a vs n e h1 r => ?_) <| Kb x; rw [e]; exact k a vs n h1.1 h1.2 r
def PV.plain : PV → Bool
 | .none | .bool _ | .int _ | .str _ => true
 | _ => false
section
variable (X : Cx) (A : Around) (env : Env) (nm : Nm) (m : AU)
abbrev KT2 (t : Value → Value → Sem Value) (Q : QE) (p : PV) : QE := fun q L => CR X A t p q L Q
abbrev KT1 (t : Value → Sem Value) (Q : QE) : QE := fun p L => Op1 X A t p L Q
abbrev KC2 (op : CmpOp) (Qt Qf : Ai → Prop) (p : PV) : QE := fun q L => Bu X A op p q L Qt Qf
abbrev KTr (Qt Qf : Ai → Prop) : QE := fun p L => OpT X A p L Qt Qf
abbrev KE (e : PySem.Expr) (K : PV → QE) : QE := fun p L => WE X A env nm m (eval e env) L (K p)
abbrev KEE (e : PySem.Expr) (Q : QE) : Ai → Prop := fun L => WE X A env nm m (eval e env) L Q
abbrev OX (op : BoolOp) (rest : List PySem.Expr) (Qt Qf : Ai → Prop) : Ai → Prop := fun L => WT X A env nm m (allTrue op rest env) L Qt Qf
abbrev KSq (Qn : QS) (Qr : QE) (Qb Qc : QS) (rest : List Stmt) : QS := fun m L => WS X A env nm m (execs rest env) L Qn Qr Qb Qc
abbrev KSt (x : Str) (Qn : QS) : QE := fun p L => ∃ k m', Stn nm m x k p m' ∧ (k = .local ∨ k = .cell) ∧ Qn m' L
abbrev KPl (Qn : QS) : QE := fun p L => p.plain = true ∧ Qn m L
end
theorem QG {k : NameKind} (N : Lk nm m x k p) (h : Q p L) : WE X A env nm m (eval (.Name x pos) env) L Q := fun Z s E F =>
 wpAny_Name (F.load N fun v V => .keeps F.hp (Ag s) V h) (F.ok.names x k (of_mem_zip N.mem).1).2.1
theorem RH {i : Int} (h : Q (.int i) L) : WE X A env nm m (eval (.Constant (.int i) k pos) env) L Q := fun _ s _ F =>
 wpAny_Constant_int (.keeps F.hp (Az s _) (AT _ _) h)
theorem RI (h : Q (.str x.cps.toList) L) (hx : x.length ≤ sizeLine) : WE X A env nm m (eval (.Constant (.str x) k pos) env) L Q := fun _ s _ F =>
 wpAny_Constant_str (.keeps F.hp (Az s _) (DO x _ hx) h)
theorem QH (h : Q .none L) : WE X A env nm m (eval (.Constant .none k pos) env) L Q := fun _ s _ F =>
 wpAny_Constant_none (.keeps F.hp (Ag s) AS h)
theorem QC {b : Bool} (h : Q (.bool b) L) : WE X A env nm m (eval (.Constant (.bool b) k pos) env) L Q := fun _ s _ F =>
 wpAny_Constant_bool (.keeps F.hp (Ag s) (Bc b) h)
theorem two {t u : Sem Value} {k : Value → Value → Sem α} {R : α → Shared → Prop}
  (h : WE X A env nm m t L fun p L1 => WE X A env nm m u L1 fun q L2 => ∀ s2 a b, Fm X A.handled Z env nm m L2 s2 → Aj (dz L2 Z) s2.heap p a → Aj (dz L2 Z) s2.heap q b → BF L L2 s s2 → wpAny X.M A (k a b) R E s2)
  (F : Fm X A.handled Z env nm m L s) : wpAny X.M A t (fun a s1 => wpAny X.M A u (fun b s2 => wpAny X.M A (k a b) R E s2) E s1) E s := by
 refine Ap (h Z s E F) fun a s1 h1 => ?_
 obtain ⟨p, L1, h2, P1, V1, e1⟩ := h1
 have F1 := F.ext e1 P1
 refine Ap (h2 Z s1 E F1) fun b s2 h3 => ?_
 obtain ⟨q, L2, h4, P2, V2, e2⟩ := h3
 exact h4 s2 a b (F1.ext e2 P2) (V1.ext e2) V2 (e1.trans e2)
theorem WE.mono {t : Sem Value} (h : WE X A env nm m t L Q) (k : ∀ p L', Q p L' → Q' p L') : WE X A env nm m t L Q' := fun Z s E F =>
 Ap (h Z s E F) fun _ _ h => h.mono k
theorem WEs.mono {t : Sem (List Value)} {Q Q' : List PV → Ai → Prop} (h : WEs X A env nm m t L Q) (k : ∀ p L', Q p L' → Q' p L') : WEs X A env nm m t L Q' := fun Z s E F =>
 Ap (h Z s E F) fun _ _ h => h.mono k
theorem WSk.mono {t : Sem Flow} {K : Ks} (h : WSk X A env nm m t L K) (k : ∀ f m' L', K.at f m' L' → K'.at f m' L') : WSk X A env nm m t L K' := fun Z s E F =>
 Ap (h Z s E F) fun _ _ h => h.mono k
theorem CR.mono {t : Value → Value → Sem Value} (h : CR X A t p q L Q) (k : ∀ p L', Q p L' → Q' p L') : CR X A t p q L Q' := fun Z s E a b P Va Vb =>
 Ap (h Z s E a b P Va Vb) fun _ _ h => h.mono k
theorem Bu.mono {Qt' Qf' : Ai → Prop} (h : Bu X A op p q L Qt Qf) (k : ∀ L', Qt L' → Qt' L') (k' : ∀ L', Qf L' → Qf' L') : Bu X A op p q L Qt' Qf' :=
 CR.mono h fun _ _ ⟨b, e, r⟩ => ⟨b, e, r.imp (fun e => ⟨e.1, k _ e.2⟩) fun e => ⟨e.1, k' _ e.2⟩⟩
theorem As.mono {f : PV} (h : As X A f ps ks L Q) (k : ∀ p L', Q p L' → Q' p L') : As X A f ps ks L Q' := fun Z s E fv vs kvs P Vf Vs Ks =>
 Ap (h Z s E fv vs kvs P Vf Vs Ks) fun _ _ h => h.mono k
theorem OF {l : PySem.Expr} {op : Operator} (h : WE X A env nm m (eval l env) L (KE X A env nm m r (KT2 X A (binaryOp op) Q))) :
  WE X A env nm m (eval (.BinOp l op r pos) env) L Q := fun Z s E F =>
 wpAny_BinOp (two (k := fun a b => binaryOp op a b) (h.mono fun _ _ h1 => h1.mono fun _ _ h2 => fun s4 a b F4 Va Vb e4 => (e4.aft (h2 Z s4 E a b F4.hp Va Vb))) F)
theorem RG {l : PySem.Expr} (hm : behindInMarks op r = false) (h : WE X A env nm m (eval l env) L (KE X A env nm m r (KT2 X A (compareOp op) Q))) :
  WE X A env nm m (eval (.Compare l [op] [r] pos) env) L Q := fun Z s E F =>
 wpAny_Compare1 (two (k := fun a b => compareOp op a b) (h.mono fun _ _ h1 => h1.mono fun _ _ h2 => fun s4 a b F4 Va Vb e4 => (e4.aft (h2 Z s4 E a b F4.hp Va Vb))) F) hm
noncomputable def B4 (value slice : PySem.Expr) (o i : Value) : Sem Value := do
 let r ← subscripted slice (← getitemInPython o) o i
 letTemporaryGo value o r
 pure r
theorem RJ {l : PySem.Expr} (h : WE X A env nm m (eval l env) L (KE X A env nm m r (KT2 X A (B4 l r) Q))) :
  WE X A env nm m (eval (.Subscript l r pos) env) L Q := fun Z s E F => by
 rw [eval_Subscript]
 refine wpAny_bind (Ap (two (k := fun a b => B4 l r a b) (R := Be X A.handled Z L s Q) (h.mono fun _ _ h1 => h1.mono fun _ _ h2 => fun s4 a b F4 Va Vb e4 => (e4.aft (h2 Z s4 E a b F4.hp Va Vb))) F) fun o s₁ h₁ => ?_)
 exact wpAny_bind (wpAny_holding (wpAny_mono h₁ (fun i s₂ h₂ => wpAny_bind (wpAny_standAt h₂)) fun _ _ x => x))
theorem we_un {op : UnaryOp} {x : PySem.Expr} (h : WE X A env nm m (eval x env) L (KT1 X A (unaryOp op) Q)) : WE X A env nm m (eval (.UnaryOp op x pos) env) L Q := fun Z s E F =>
 wpAny_UnaryOp (wv (h Z s E F) fun a s1 _ _ h2 P1 V1 e1 => (e1.aft (h2 Z s1 E a P1 V1)))
theorem we_if {body orelse : PySem.Expr} (h : WT X A env nm m (isTrue test env (eval test env)) L (KEE X A env nm m body Q) (KEE X A env nm m orelse Q)) :
  WE X A env nm m (eval (.IfExp test body orelse pos) env) L Q := fun Z s E F => by
 refine wpAny_IfExp (Ap (h Z s E F) fun b s1 x => ?_)
 apply x.elim <;> exact fun L1 h2 P1 e1 => e1.aft (h2 Z s1 E (F.ext e1 P1))
theorem Nb {l : PySem.Expr} (hm : behindInMarks op r = false)
  (h : WE X A env nm m (eval l env) L (KE X A env nm m r (KC2 X A op Qt Qf))) :
  WT X A env nm m (isTrue (.Compare l [op] [r] pos) env whole) L Qt Qf := fun Z s E F => by
 refine wpAny_isTrue_Compare1 (two (k := fun a b => compareOp op a b) (h.mono fun _ _ h1 => h1.mono fun _ _ h2 => fun s4 a b F4 Va Vb e4 => (Ap (h2 Z s4 E a b F4.hp Va Vb) fun v s5 h5 => ?_)) F) hm
 obtain ⟨p, L3, ⟨b, rfl, q⟩, P, V, e5⟩ := h5
 rw [BS V]
 exact wpAny_truthy_bool ⟨L3, q, P, e4.trans e5⟩
theorem RL {x : PySem.Expr} (h : WT X A env nm m (isTrue x env (eval x env)) L Qf Qt) : WT X A env nm m (isTrue (.UnaryOp .Not x pos) env whole) L Qt Qf := fun Z s E F =>
 wpAny_isTrue_Not (Ap (h Z s E F) fun b _ x => x.flip)
theorem Lj {op : BoolOp} {values : List PySem.Expr} (h : WT X A env nm m (allTrue op values env) L Qt Qf) : WT X A env nm m (isTrue (.BoolOp op values pos) env whole) L Qt Qf := fun Z s E F =>
 wpAny_isTrue_BoolOp (h Z s E F)
theorem OM (h : Qt L) : WT X A env nm m (allTrue .And [] env) L Qt Qf := fun _ s _ F => wpAny_allTrue_And_nil (.keeps F.hp (Ag s) (.inl ⟨rfl, h⟩))
theorem Ll (h : Qf L) : WT X A env nm m (allTrue .Or [] env) L Qt Qf := fun _ s _ F => wpAny_allTrue_Or_nil (.keeps F.hp (Ag s) (.inr ⟨rfl, h⟩))
theorem OL {x : PySem.Expr} (h : WT X A env nm m (isTrue x env (eval x env)) L (OX X A env nm m .And rest Qt Qf) Qf) :
  WT X A env nm m (allTrue .And (x :: rest) env) L Qt Qf := fun Z s E F => by
 refine wpAny_allTrue_And_cons (Ap (h Z s E F) fun b s1 x => ?_)
 apply x.elim
 ·exact fun L1 h2 P1 e1 => e1.aftB (h2 Z s1 E (F.ext e1 P1))
 ·exact fun L1 h2 P1 e1 => ⟨L1, .inr ⟨rfl, h2⟩, P1, e1⟩
theorem Oj {x : PySem.Expr} (h : WT X A env nm m (isTrue x env (eval x env)) L Qt (OX X A env nm m .Or rest Qt Qf)) :
  WT X A env nm m (allTrue .Or (x :: rest) env) L Qt Qf := fun Z s E F => by
 refine wpAny_allTrue_Or_cons (Ap (h Z s E F) fun b s1 x => ?_)
 apply x.elim
 ·exact fun L1 h2 P1 e1 => ⟨L1, .inl ⟨rfl, h2⟩, P1, e1⟩
 ·exact fun L1 h2 P1 e1 => e1.aftB (h2 Z s1 E (F.ext e1 P1))
theorem JH (he : isTrue e env (eval e env) = (do let v ← eval e env; standAt e.pos; holding [v] (truthy v))) (h : WE X A env nm m (eval e env) L (KTr X A Qt Qf)) :
  WT X A env nm m (isTrue e env (eval e env)) L Qt Qf := fun Z s E F =>
 wpAny_isTrue_value (wv (h Z s E F) fun a s1 _ _ h2 P1 V1 e1 => (e1.aftB (h2 Z s1 E a P1 V1))) he
theorem AC (h : Qn m L) : WS X A env nm m (execs [] env) L Qn Qr Qb Qc := fun Z s E F => wpAny_execs_nil ⟨.next, m, L, h, F, rfl, .refl _ _ _ _⟩
theorem Ab {rest : List Stmt} (h : WS X A env nm m (exec st env) L (KSq X A env nm Qn Qr Qb Qc rest) Qr Qb Qc) : WS X A env nm m (execs (st :: rest) env) L Qn Qr Qb Qc := fun Z s E F => by
 refine wpAny_execs_cons (Ap (h Z s E F) fun f s1 h1 => ?_)
 obtain ⟨pf, m', L', q, F1, r, e1⟩ := h1
 cases pf with
 | next => rw [r]; exact e1.aft (q Z s1 E F1)
 | brk => rw [r]; exact ⟨.brk, m', L', q, F1, rfl, e1⟩
 | cont => rw [r]; exact ⟨.cont, m', L', q, F1, rfl, e1⟩
 | ret p => refine Ar (fun v e₀1 V => ?_) <| r; obtain rfl := e₀1; exact ⟨.ret p, m', L', q, F1, ⟨v, rfl, V⟩, e1⟩
theorem MX (h : Qb m L) : WS X A env nm m (exec (.Break pos) env) L Qn Qr Qb Qc := fun _ _ _ F => wpAny_Break ⟨.brk, m, L, h, F, rfl, .refl _ _ _ _⟩
theorem HB (h : WE X A env nm m (eval e env) L Qr) : WS X A env nm m (exec (.Return (some e) pos) env) L Qn Qr Qb Qc := fun Z s E F =>
 wpAny_Return_some (wv (h Z s E F) fun v s1 p L' q P V e1 => ⟨.ret p, m, L', q, F.ext e1 P, ⟨v, rfl, V⟩, e1.toS⟩)
theorem La (hp : p.plain = true) (x : Aj D h p v) : ∀ a, v ≠ .ref a := by
 intro a e
 subst e
 cases p with
 | none => cases Dp x
 | bool b => cases BS x
 | int i => refine Ao (fun t e => ?_) <| FH x; cases e
 | str l => obtain ⟨_, t, e⟩ := HY x; cases e
 | _ => cases hp
theorem NQ (h : WE X A env nm m (eval e env) L (KPl m Qn)) (hs : swapsWith e none pos.line env = pure false) : WS X A env nm m (exec (.Expr e pos) env) L Qn Qr Qb Qc := fun Z s E F => by
 refine wpAny_Expr (wv (h Z s E F) fun v s1 p L' o2 P V e1 => ?_) (by show (env.scope.kind == .module && _) = false; rw [F.ok.kind]; rfl) hs
 obtain ⟨hp, q⟩ := o2
 have hv := La hp V
 have r : DA X A.handled Z env nm L s ⟨Qn, Qr, Qb, Qc⟩ .next s1 := ⟨.next, m, L', q, F.ext e1 P, rfl, e1.toS⟩
 cases v with
 | ref a => exact absurd rfl (hv a)
 | _ => exact r
theorem Br (hs : swapsWith e (some (.Name x pos')) pos.line env = pure false)
  (h : WE X A env nm m (eval e env) L (KSt nm m x Qn)) : WS X A env nm m (exec (.Assign [.Name x pos'] e pos) env) L Qn Qr Qb Qc := fun Z s E F => by
 refine wpAny_Assign_Name (wv (h Z s E F) fun v s1 p L' o2 P V e1 => ?_) hs
 obtain ⟨k, m', S, hk, q⟩ := o2
 exact (F.ext e1 P).store S hk V fun s2 F2 e2 => ⟨.next, m', L', q, F2, rfl, e1.toS.trans e2⟩
theorem AJ {k : NameKind} {R : QS} (S : Stn nm m x k p m') (hk : k = .local ∨ k = .cell) (h : R m' L) : KSt nm m x R p L := ⟨k, m', S, hk, h⟩
theorem RK {k₀ : NameKind} {p₀ : PV} {op : Operator} (N : Lk nm m x k₀ p₀)
  (h : WE X A env nm m (eval e env) L (KT2 X A (inplaceOp op) (KSt nm m x Qn) p₀)) : WS X A env nm m (exec (.AugAssign (.Name x pos') op e pos) env) L Qn Qr Qb Qc := fun Z s E F => by
 refine wpAny_AugAssign_Name (F.load N fun v₀ V₀ => (wv (h Z s E F) fun v s1 q L1 h1 P1 V1 e1 => ?_))
 refine wv (h1 Z s1 E v₀ v P1 (V₀.ext e1) V1) fun w s2 p L' o2 P2 V2 e2 => ?_
 obtain ⟨k, m', S, hk, q'⟩ := o2
 exact ((F.ext e1 P1).ext e2 P2).store S hk V2 fun s3 F3 e3 => ⟨.next, m', L', q', F3, rfl, (e1.toS.trans e2.toS).trans e3⟩
theorem Oh (h : WT X A env nm m (isTrue test env (eval test env)) L (KSq X A env nm Qn Qr Qb Qc body m) (KSq X A env nm Qn Qr Qb Qc orelse m)) :
  WS X A env nm m (exec (.If test body orelse pos) env) L Qn Qr Qb Qc := fun Z s E F => by
 refine wpAny_If (Ap (h Z s E F) fun b s1 x => ?_)
 apply x.elim <;> exact fun L1 h2 P1 e1 => e1.toS.aft (h2 Z s1 E (F.ext e1 P1))
theorem IS (I : Nat → QS) (n : Nat) (h0 : I n m L)
  (h : ∀ n m L, I n m L → WT X A env nm m (isTrue test env (eval test env)) L (fun L1 => WS X A env nm m (execs body env) L1 (fun m' L' => ∃ k, k < n ∧ I k m' L') Qr (fun m' L' => Qn m' L') (fun m' L' => ∃ k, k < n ∧ I k m' L')) fun L1 => Qn m L1) :
  WS X A env nm m (exec (.While test body [] pos) env) L Qn Qr Qb Qc := fun Z s E F => by
 refine wpAny_While (codeAny_whileLoop (fun k s' => ∃ m' L', I k m' L' ∧ Fm X A.handled Z env nm m' L' s' ∧ B9 env nm L L' s s') ?_ n ⟨m, L, h0, F, .refl _ _ _ _⟩)
 rintro k s' ⟨m', L', hI, F', e'⟩
 refine wb (h k m' L' hI Z s' _ F') fun b s1 L1 h2 P1 e1 => ?_
 have F1 := F'.ext e1 P1
 rcases h2 with ⟨rfl, h2⟩ | ⟨rfl, h2⟩
 ·refine Ap (h2 Z s1 _ F1) fun f s2 h5 => ?_
  obtain ⟨pf, m2, L2, q, F2, r, e2⟩ := h5
  have eT := (e'.trans e1.toS).trans e2
  cases pf with
  | next => rw [r]; refine Ar (fun j hj hI' => ?_) <| q; exact ⟨j, hj, m2, L2, hI', F2, eT⟩
  | cont => rw [r]; refine Ar (fun j hj hI' => ?_) <| q; exact ⟨j, hj, m2, L2, hI', F2, eT⟩
  | brk => rw [r]; exact ⟨.next, m2, L2, q, F2, rfl, eT⟩
  | ret p => refine Ar (fun v e₀1 V => ?_) <| r; obtain rfl := e₀1; exact ⟨.ret p, m2, L2, q, F2, ⟨v, rfl, V⟩, eT⟩
 ·exact wpAny_execs_nil ⟨.next, m', L1, h2, F1, rfl, e'.trans e1.toS⟩
theorem Rb {a : Int} (h : Q (.int (a + b)) L) : CR X A (binaryOp .Add) (.int a) (.int b) L Q := fun Z s E u v P Va Vb => by
 apply Ax Va; intro t; apply Ax Vb; intro t'
 exact PySem.P.add_int (.keeps P (Az s _) (AT _ _) h)
theorem Q8 {a : Int} (h : Q (.int (a + b)) L) : CR X A (inplaceOp .Add) (.int a) (.int b) L Q := fun Z s E u v P Va Vb => by
 apply Ax Va; intro t; apply Ax Vb; intro t'
 exact PySem.P.iadd_int (.keeps P (Az s _) (AT _ _) h)
theorem RF {a : Int} (h : Q (.int (a - b)) L) : CR X A (binaryOp .Sub) (.int a) (.int b) L Q := fun Z s E u v P Va Vb => by
 apply Ax Va; intro t; apply Ax Vb; intro t'
 exact PySem.P.sub_int (.keeps P (Az s _) (AT _ _) h)
theorem QA {a : Int} (h : Q (.int (a - b)) L) : CR X A (inplaceOp .Sub) (.int a) (.int b) L Q := fun Z s E u v P Va Vb => by
 apply Ax Va; intro t; apply Ax Vb; intro t'
 exact PySem.P.isub_int (.keeps P (Az s _) (AT _ _) h)
theorem DI {a : Int} (hm : (-(2 ^ 64) < a ∧ a < 2 ^ 64) ∨ (-(2 ^ 64) < b ∧ b < 2 ^ 64)) (h : Q (.int (a * b)) L) : CR X A (binaryOp .Mult) (.int a) (.int b) L Q := fun Z s E u v P Va Vb => by
 apply Ax Va; intro t; apply Ax Vb; intro t'
 exact PySem.P.mul_int (.keeps P (Az s _) (AT _ _) h) (hm.elim (fun e => .of_left (intBits_le_64 e.1 e.2)) fun e => .of_right (intBits_le_64 e.1 e.2))
theorem Ri {a : Int} (hb : 0 < b ∧ b < 1073741824) (h : Q (.int (a / b)) L) : CR X A (binaryOp .FloorDiv) (.int a) (.int b) L Q := fun Z s E u v P Va Vb => by
 apply Ax Va; intro t; apply Ax Vb; intro t'
 refine floordiv_int (by exact FI 5213012264879137 rt hb.1) (.keeps P (Az s _) (AT _ _) ?_) (.inl (PyProof.noPylong_small (by rw [← Int.ofNat_lt, Int.natAbs_of_nonneg (Int.le_of_lt hb.1)]; exact hb.2)))
 rw [Int.fdiv_eq_ediv_of_nonneg _ (by exact FI 0x50041d00420421 rt hb.1)]; exact h
theorem RA {a : Int} (hb : 0 < b) (h : Q (.int (a % b)) L) : CR X A (binaryOp .Mod) (.int a) (.int b) L Q := fun Z s E u v P Va Vb => by
 apply Ax Va; intro t; apply Ax Vb; intro t'
 refine mod_int' (by exact FI 5213012264879137 rt hb) (.keeps P (Az s _) (AT _ _) ?_)
 rw [Int.fmod_eq_emod_of_nonneg _ (by exact FI 0x50041d00420421 rt hb)]; exact h
theorem neg_i {a : Int} (h : Q (.int (-a)) L) : Op1 X A (unaryOp .USub) (.int a) L Q := fun Z s E u P Va => by
 apply Ax Va; intro t
 exact PySem.P.neg_int (.keeps P (Az s _) (AT _ _) h)
theorem Qg {a : Int} (h : Q (.bool (decide (a < b))) L) : CR X A (compareOp .Lt) (.int a) (.int b) L Q := fun Z s E u v P Va Vb => by
 apply Ax Va; intro t; apply Ax Vb; intro t'
 exact PySem.P.lt_int (.keeps P (Ag s) (Bc _) h)
theorem PY {a : Int} (h : Q (.bool (decide (a ≤ b))) L) : CR X A (compareOp .LtE) (.int a) (.int b) L Q := fun Z s E u v P Va Vb => by
 apply Ax Va; intro t; apply Ax Vb; intro t'
 exact PySem.P.le_int (.keeps P (Ag s) (Bc _) h)
theorem Pw {a : Int} (h : Q (.bool (decide (a ≥ b))) L) : CR X A (compareOp .GtE) (.int a) (.int b) L Q := fun Z s E u v P Va Vb => by
 apply Ax Va; intro t; apply Ax Vb; intro t'
 exact PySem.P.ge_int (.keeps P (Ag s) (Bc _) h)
theorem Pr {a : Int} (h : Q (.bool (decide (a = b))) L) : CR X A (compareOp .Eq) (.int a) (.int b) L Q := fun Z s E u v P Va Vb => by
 apply Ax Va; intro t; apply Ax Vb; intro t'
 exact PySem.P.eq_int (.keeps P (Ag s) (Bc _) h)
theorem Q0 {a : Int} (h : Q (.bool (!decide (a = b))) L) : CR X A (compareOp .NotEq) (.int a) (.int b) L Q := fun Z s E u v P Va Vb => by
 apply Ax Va; intro t; apply Ax Vb; intro t'
 exact PySem.P.ne_int (.keeps P (Ag s) (Bc _) h)
def PV.isNone : PV → Bool
 | .none => true
 | _ => false
theorem Jw (hp : ∀ x, p ≠ .val x) (V : Aj D h p v) : (v == .none) = p.isNone := by
 cases p with
 | none => rw [Dp V]; rfl
 | bool b => rw [BS V]; rfl
 | int i => apply Ax V; intro t; rfl
 | str l => apply Bn V; intro _ t; rfl
 | val x => exact absurd rfl (hp x)
 | ref a => rw [Cw V]; rfl
 | tup ps => apply Dd V; intro a vs n _ _ _; rfl
 | lst ps => apply J1 V; intro a vs n _ _ _; rfl
 | dic ks ps => refine DD (fun a vs es n e₀4 _ => ?_) <| V; obtain rfl := e₀4; rfl
 | ins C xs ps => refine OS (fun a d es n vs e₀5 _ => ?_) <| V; obtain rfl := e₀5; rfl
 | lam a b c => obtain ⟨a, c, co, qual, pm, ctv, doc, vs, t, rfl, _⟩ := V; rfl
 | sli a b c => refine DD (fun a vl vu vs e₀4 _ => ?_) <| V; obtain rfl := e₀4; rfl
 | exc a b => refine OV (fun a o vs t ot n u e₀7 _ => ?_) <| V; obtain rfl := e₀7; rfl
 | obj a b => refine Ar (fun a e₀1 _ => ?_) <| V; obtain rfl := e₀1; rfl
theorem Hv (hp : ∀ x, p ≠ .val x) (h : Q (.bool p.isNone) L) : CR X A (compareOp .Is) p .none L Q := fun Z s E u v P Va Vb => by
 rw [Dp Vb]
 exact is_none (.keeps P (Ag s) (by rw [Jw hp Va]; exact Bc _) h)
theorem Ps {a b : List Nat} (h : Q (.bool (decide (a = b))) L) : CR X A (compareOp .Eq) (.str a) (.str b) L Q := fun Z s E u v P Va Vb => by
 apply Bn Va; intro _ t; apply Bn Vb; intro _ t'
 refine PySem.P.eq_str (.keeps P (Ag s) (Bc _) ?_)
 have : (a == b) = decide (a = b) := by by_cases e : a = b <;> simp [e]
 show Q (.bool (a == b)) L
 rw [this]; exact h
theorem Q1 {a b : List Nat} (h : Q (.bool (!decide (a = b))) L) : CR X A (compareOp .NotEq) (.str a) (.str b) L Q := fun Z s E u v P Va Vb => by
 apply Bn Va; intro _ t; apply Bn Vb; intro _ t'
 refine PySem.P.ne_str (.keeps P (Ag s) (Bc _) ?_)
 have : (a != b) = !decide (a = b) := by by_cases e : a = b <;> simp [e]
 show Q (.bool (a != b)) L
 rw [this]; exact h
theorem FT {a b : List Nat} (hz : a.length + b.length ≤ sizeLine) (h : Q (.str (a ++ b)) L) : CR X A (binaryOp .Add) (.str a) (.str b) L Q := fun Z s E u v P Va Vb => by
 apply Bn Va; intro ha t; apply Bn Vb; intro hb t'
 refine PySem.P.add_str ?_
 have key : ∀ n t (x : Str), x.cps.toList = a ++ b → Be X A.handled Z L s Q (.str x t) { s with toks := n } := fun n t x e => by
  refine .keeps P (Az s n) ?_ h
  refine And.intro (by rw [length_append]; exact hz) ⟨t, ?_⟩
  rw [← e]
 by_cases h1 : a = []
 ·subst h1
  exact key _ t' _ rfl
 ·have z1 : ((⟨a.toArray⟩ : Str).length == 0) = false := by simpa [Str.length] using h1
  rw [if_neg (by rw [z1]; exact Bool.false_ne_true)]
  by_cases h2 : b = []
  ·subst h2
   exact key _ t _ (by simp)
  ·have z2 : ((⟨b.toArray⟩ : Str).length == 0) = false := by simpa [Str.length] using h2
   rw [if_neg (by rw [z2]; exact Bool.false_ne_true)]
   refine ⟨?_, key _ _ _ ?_⟩
   ·rw [strLen_append]; simpa [Str.length] using hz
   ·show (a.toArray ++ b.toArray).toList = _
    simp
theorem Ia {b : Bool} (h : b = true → Qt L) (h' : b = false → Qf L) : OpT X A (.bool b) L Qt Qf := fun Z s E u P Va => by
 rw [BS Va]; refine wpAny_truthy_bool (.keeps P (Ag s) ?_)
 cases b with
 | true => exact .inl ⟨rfl, h rfl⟩
 | false => exact .inr ⟨rfl, h' rfl⟩
theorem Cc {b : Bool} (h : ∀ {Q : QE}, Q (.bool b) L → CR X A (compareOp op) p q L Q) (ht : b = true → Qt L) (hf : b = false → Qf L) : Bu X A op p q L Qt Qf :=
 h ⟨b, rfl, by cases b with | true => exact .inl ⟨rfl, ht rfl⟩ | false => exact .inr ⟨rfl, hf rfl⟩⟩
theorem Fb {a : Int} (ht : a < b → Qt L) (hf : ¬ a < b → Qf L) : Bu X A .Lt (.int a) (.int b) L Qt Qf := Cc Qg (fun h => ht (of_decide_eq_true h)) fun h => hf (of_decide_eq_false h)
theorem Rf {a : Int} (ht : a ≤ b → Qt L) (hf : ¬ a ≤ b → Qf L) : Bu X A .LtE (.int a) (.int b) L Qt Qf := Cc PY (fun h => ht (of_decide_eq_true h)) fun h => hf (of_decide_eq_false h)
theorem Re {a : Int} (ht : a ≥ b → Qt L) (hf : ¬ a ≥ b → Qf L) : Bu X A .GtE (.int a) (.int b) L Qt Qf := Cc Pw (fun h => ht (of_decide_eq_true h)) fun h => hf (of_decide_eq_false h)
theorem Rc {a : Int} (ht : a = b → Qt L) (hf : ¬ a = b → Qf L) : Bu X A .Eq (.int a) (.int b) L Qt Qf := Cc Pr (fun h => ht (of_decide_eq_true h)) fun h => hf (of_decide_eq_false h)
theorem Rg {a : Int} (ht : ¬ a = b → Qt L) (hf : a = b → Qf L) : Bu X A .NotEq (.int a) (.int b) L Qt Qf := Cc Q0 (fun h => ht (by simpa using h)) fun h => hf (by simpa using h)
theorem Rd {a b : List Nat} (ht : a = b → Qt L) (hf : ¬ a = b → Qf L) : Bu X A .Eq (.str a) (.str b) L Qt Qf := Cc Ps (fun h => ht (of_decide_eq_true h)) fun h => hf (of_decide_eq_false h)
theorem Rh {a b : List Nat} (ht : ¬ a = b → Qt L) (hf : a = b → Qf L) : Bu X A .NotEq (.str a) (.str b) L Qt Qf := Cc Q1 (fun h => ht (by simpa using h)) fun h => hf (by simpa using h)
theorem Pn (h : Qt L) : Bu X A .Is .none .none L Qt Qf := Cc (Hv (p := .none) (fun _ e => by cases e)) (fun _ => h) fun e => by cases e
theorem LQ (hp : ∀ x, p ≠ .val x) (hn : p.isNone = false) (h : Qf L) : Bu X A .Is p .none L Qt Qf := Cc (Hv hp) (fun e => by rw [hn] at e; cases e) fun _ => h
inductive LV (L9 : Ai) : PV → List PV → Prop
 | lst {ps : _} : LV L9 (.lst ps) ps
 | ref {a ps : _} : (a, .list ps) ∈ L9 → LV L9 (.ref a) ps
theorem LV.at (l : LV L p ps) (P : Hp X H Z L s) (V : Aj (dz L Z) s.heap p v) :
  ∃ a vs n, v = .ref a ∧ s.heap.get? a = some (Bh vs n) ∧ Ae (dz L Z) s.heap ps vs := by
 cases l with
 | lst => refine BZ (fun a vs n e ho r => ?_) <| Kb V; exact ⟨a, vs, n, e, ho.1, r⟩
 | ref hm => refine B8 (fun vs n ho r => ?_) <| P.led _ hm; exact ⟨_, vs, n, Cw V, ho, r⟩
theorem LV.el {R : Value → Prop} (l : LV L p ps) (P : Hp X H Z L s) (V : Aj (dz L Z) s.heap p v)
  (k : ∀ a vs n, s.heap.get? a = some (Bh vs n) → Ae (dz L Z) s.heap ps vs → R (.ref a)) : R v := by
 refine BZ (fun a vs n e ho r => ?_) <| l.at P V; rw [e]; exact k a vs n ho r
theorem Ah {vs : List Value} (e : h.get? a = some (Bh vs n)) : h.IsList a vs.toArray := ⟨_, e, rfl, n, rfl⟩
theorem sub_cases (slice : PySem.Expr) (o i : Value) : subscripted slice false o i = operate [i, o] (getItem o i) ∨ subscripted slice false o i = operate [o, i] (getItem o i) := by
 cases slice with
 | Slice a b c p =>
  cases c with
  | none => exact .inl rfl
  | some x => exact .inr rfl
 | _ => exact .inr rfl
theorem Dv {o i : Value} {id : String} (hT : s.TypeIs o T)
  (hl : typeLookup (.type T) "__getitem__" = pure (some (.builtin id))) (h : wpAny X.M A (getItem o i) R E s) : wpAny X.M A (B4 value slice o i) R E s := by
 unfold B4
 refine wpAny_bind ?_
 rw [getitemInPython_of_ne hT.not_modules]
 refine wpAny_bind (wpAny_specialOf hT hl ?_)
 have fin : wpAny X.M A (subscripted slice false o i) (fun r s₃ => wpAny X.M A (letTemporaryGo value o r >>= fun _ => pure r) R E s₃) E s := by
  rcases sub_cases slice o i with e | e
  ·rw [e]; exact wpAny_operating (wpAny_mono h (fun r s₃ h₃ => wpAny_bind (wpAny_letTemporaryGo (wpAny_pure h₃))) fun _ _ x => x)
  ·rw [e]; exact wpAny_operating (wpAny_mono h (fun r s₃ h₃ => wpAny_bind (wpAny_letTemporaryGo (wpAny_pure h₃))) fun _ _ x => x)
 first
  | exact wpAny_pure (wpAny_bind fin)
  | exact wpAny_bind (wpAny_pure (wpAny_bind fin))
  | exact wpAny_bind fin
theorem Bm {k : Int} (l : LV L p ps) (h0 : 0 ≤ k) (hk : k < 2 ^ 63) (hq : ps[k.toNat]? = some q) (h : Q q L) : CR X A (B4 value slice) p (.int k) L Q := fun Z s E u v P Va Vb => by
 apply Ax Vb; intro t
 apply l.el P Va; intro a vs n ho r
 refine Ar (fun x hx V => ?_) <| r.get hq
 exact Dv (Ah ho).typeIs slot_list_getitem.lookup (wpAny_getItem_list (Ah ho) h0 hk (by simpa using hx) (.keeps P (Ag s) V h))
theorem Dm (l : LV L p ps) (hz : (ps.length : Int) < 2 ^ 63) (h : Q (.int ps.length) L) : As X A (.val (.builtin "len")) [p] [] L Q := fun Z s E fv vs kvs P Vf Vs Ks => by
 apply AI Vf
 apply Vs.cons_el; intro v r V y
 apply y.nil_el
 cases Ks
 apply l.el P V; intro a vs n ho r
 refine Calls.call_len_list (Ah ho) (by simpa [r.length] using hz) (.keeps P (Az s _) ?_ h)
 rw [size_toArray, r.length]; exact AT _ _
def Bw (X : Cx) (f : PV) : Prop := ∀ (H : Option Value) Z L s fv, Hp X H Z L s → Aj (dz L Z) s.heap f fv → ∃ k, (k = Keeper.frame ∨ k = Keeper.machine ∨ k = Keeper.boundFrame) ∧ Looks X.M s.heap (keeperOf fv) k
theorem Nt {sl : Array (Option Value)} (ho : X.h₀.get? a = some ⟨oc, od, .func fd, sl⟩) : Bw X (.val (.ref a)) := fun H Z L s fv P V => by
 apply AI V; exact ⟨.frame, .inl rfl, (Looks.ld (part := none) (P.keep _ _ ho)).andThen .now⟩
theorem HN {id : String} : Bw X (.val (.builtin id)) := fun H Z L s fv P V => by
 apply AI V; exact ⟨.machine, .inr (.inl rfl), .now⟩
theorem Hx {id : String} : Bw X (.val (.type id)) := fun H Z L s fv P V => by
 apply AI V; exact ⟨.machine, .inr (.inl rfl), .now⟩
theorem Mr {a : Arguments} {b : PySem.Expr} {c : Scope} : Bw X (.lam a b c) := fun H Z L s fv P V => by
 obtain ⟨a, c, co, qual, pm, ctv, doc, vs, t, rfl, ho, _⟩ := V
 exact ⟨.frame, .inl rfl, (Looks.ld (part := none) ho.1).andThen .now⟩
theorem kp_b {id : String} {R : Prop} (h : R) : Bw X (.val (.builtin id)) ∧ R := ⟨HN, h⟩
theorem kp_t {id : String} {R : Prop} (h : R) : Bw X (.val (.type id)) ∧ R := ⟨Hx, h⟩
theorem kp_l {a : Arguments} {b : PySem.Expr} {c : Scope} {R : Prop} (h : R) : Bw X (.lam a b c) ∧ R := ⟨Mr, h⟩
theorem Og {Q : List PV → Ai → Prop} (h : Q [] L) : WEs X A env nm m (spliced (backTo pos (starEach [] env))) L Q := fun Z s E F =>
 wpAny_items_nil ⟨[], L, h, F.hp, .nil, .refl _ _⟩
abbrev KCo (Q : List PV → Ai → Prop) (p : PV) : List PV → Ai → Prop := fun ps L => Q (p :: ps) L
abbrev KAr (X : Cx) (A : Around) (env : Env) (nm : Nm) (m : AU) (pos : Pos) (rest : List PySem.Expr) (Q : List PV → Ai → Prop) : QE := fun p L => WEs X A env nm m (spliced (backTo pos (starEach rest env))) L (KCo Q p)
theorem Id {Q : List PV → Ai → Prop} (he : starEach (e :: rest) env = (false, eval e env) :: starEach rest env)
  (h : WE X A env nm m (eval e env) L (KAr X A env nm m pos rest Q)) :
  WEs X A env nm m (spliced (backTo pos (starEach (e :: rest) env))) L Q := fun Z s E F => by
 refine wpAny_items_cons (wv (h Z s E F) fun v s1 p L1 h1 P1 V1 e1 => ?_) he
 refine wvs (h1 Z s1 E (F.ext e1 P1)) fun vs s2 ps L2 h2 P2 V2 e2 => ?_
 exact ⟨p :: ps, L2, h2, P2, .cons (V1.ext e2) V2, e1.trans e2⟩
def WKs (X : Cx) (A : Around) (env : Env) (nm : Nm) (m : AU) (pos : Pos) (kws : List Keyword) (L : Ai) (Q : List PV → Ai → Prop) : Prop := WEs X A env nm m (evalAll ((backToKw pos (keywordEach kws env)).map (·.2))) L Q
theorem GQ {Q : List PV → Ai → Prop} (h : Q [] L) : WKs X A env nm m pos [] L Q := fun Z s E F => kwAll_nil ⟨[], L, h, F.hp, .nil, .refl _ _⟩
abbrev KKw (X : Cx) (A : Around) (env : Env) (nm : Nm) (m : AU) (pos : Pos) (rest : List Keyword) (Q : List PV → Ai → Prop) : QE := fun p L => WKs X A env nm m pos rest L (KCo Q p)
abbrev KCb (X : Cx) (A : Around) (env : Env) (pos : Pos) (kws : List Keyword) (Q : QE) (pf : PV) (ps : List PV) : List PV → Ai → Prop := fun ks L => As X A pf ps (((backToKw pos (keywordEach kws env)).filterMap (·.1)).zip ks) L Q
abbrev KCk (X : Cx) (A : Around) (env : Env) (nm : Nm) (m : AU) (pos : Pos) (kws : List Keyword) (K : List PV → List PV → Ai → Prop) : List PV → Ai → Prop := fun ps L => WKs X A env nm m pos kws L (K ps)
abbrev KCa (X : Cx) (A : Around) (env : Env) (nm : Nm) (m : AU) (pos : Pos) (args : List PySem.Expr) (kws : List Keyword) (Q : QE) : QE := fun pf L => Bw X pf ∧ WEs X A env nm m (spliced (backTo pos (starEach args env))) L (KCk X A env nm m pos kws (KCb X A env pos kws Q pf))
abbrev KCn (X : Cx) (A : Around) (env : Env) (pos : Pos) (kws : List Keyword) (Q : QE) (p pf : PV) (ps : List PV) : List PV → Ai → Prop := KCb X A env pos kws Q pf (p :: ps)
theorem Oi {p : Pos} {rest : List Keyword} {Q : List PV → Ai → Prop}
  (h : WE X A env nm m (eval value env) L (KKw X A env nm m pos rest Q)) : WKs X A env nm m pos (⟨some name, value, p⟩ :: rest) L Q := fun Z s E F => by
 refine kwAll_cons (wv (h Z s E F) fun v s1 p L1 h1 P1 V1 e1 => ?_)
 refine wvs (h1 Z s1 E (F.ext e1 P1)) fun vs s2 ps L2 h2 P2 V2 e2 => ?_
 exact ⟨p :: ps, L2, h2, P2, .cons (V1.ext e2) V2, e1.trans e2⟩
theorem BO.zip : ∀ {xs : List Str} {ps : List PV} {vs : List Value}, Ae D h ps vs → BO D h (xs.zip ps) (xs.zip vs)
 | [], _, _, _ => .nil
 | x :: xs, [], _, V => by apply V.nil_el; exact .nil
 | x :: xs, p :: ps, _, V => by apply V.cons_el; intro v r V1 V2; exact .cons V1 (BO.zip V2)
theorem Gb {BU : List PV}
  (K : Bw X pf) (F : Fm X A.handled Z env nm m L s) (Vf : Aj (dz L Z) s.heap pf fv) (Vs : Ae (dz L Z) s.heap BU fvs)
  (h : WEs X A env nm m (spliced (backTo pos (starEach (e :: rest) env))) L fun ps L1 => WKs X A env nm m pos kws L1 fun ks L2 => As X A pf (BU ++ ps) (((backToKw pos (keywordEach kws env)).filterMap (·.1)).zip ks) L2 Q)
  (he : starEach (e :: rest) env = (false, eval e env) :: starEach rest env)
  (hplain : ((backTo pos (starEach (e :: rest) env)).any (·.1) || (backToKw pos (keywordEach kws env)).any (·.1.isNone)) = false)
  (hall : (backToKw pos (keywordEach kws env)).all (·.1.isSome) = true) :
  wpAny X.M A (callWith pos fv fvs (backTo pos (starEach (e :: rest) env)) (backToKw pos (keywordEach kws env))) (Be X A.handled Z L s Q) E s := by
 refine callWith_of (P := fun h => ∃ k, (k = Keeper.frame ∨ k = Keeper.machine ∨ k = Keeper.boundFrame) ∧ Looks X.M h (keeperOf fv) k) hplain (fun _ p => p) ?_
 refine evalArgs_kw2 hall ?_ he
 refine wvs (h Z s E F) fun vs s1 ps L1 h1 P1 V1 e1 => ?_
 refine wvs (h1 Z s1 E (F.ext e1 P1)) fun ks s2 kps L2 C P2 V2 e2' => ?_
 have e2 := e1.trans e2'
 exact ⟨K _ Z L2 s2 fv P2 (Vf.ext e2), (Ap (C Z s2 E fv _ _ P2 (Vf.ext e2) ((Vs.ext e2).append (V1.ext e2')) (BO.zip V2)) fun v s3 h3 => h3.after e2)⟩
theorem QD {f : PySem.Expr}
  (h : WE X A env nm m (eval f env) L (KCa X A env nm m pos (e :: rest) kws Q))
  (hc : eval (.Call f (e :: rest) kws pos) env = (do callWith pos (← eval f env) [] (backTo pos (starEach (e :: rest) env)) (backToKw pos (keywordEach kws env))))
  (he : starEach (e :: rest) env = (false, eval e env) :: starEach rest env)
  (hplain : ((backTo pos (starEach (e :: rest) env)).any (·.1) || (backToKw pos (keywordEach kws env)).any (·.1.isNone)) = false)
  (hall : (backToKw pos (keywordEach kws env)).all (·.1.isSome) = true) : WE X A env nm m (eval (.Call f (e :: rest) kws pos) env) L Q := fun Z s E F => by
 rw [hc]
 refine wpAny_bind (wv (h Z s E F) fun fv s1 pf L1 o2 P1 V1 e1 => ?_)
 obtain ⟨K, h1⟩ := o2
 exact Ap (Gb K (F.ext e1 P1) V1 .nil h1 he hplain hall) fun v s2 h2 => h2.after e1
def HC (X : Cx) (A : Around) (name : Str) (p : PV) (L : Ai) (f : PV) : Prop := ∀ Z s pl v (R : Value × List Value → Shared → Prop) E, Hp X A.handled Z L s → Aj (dz L Z) s.heap p v →
 (∀ fv s', Aj (dz L Z) s'.heap f fv → Keeps s s' → R (fv, [v]) s') → wpAny X.M A (getMethod v name pl) R E s
abbrev KMe (X : Cx) (A : Around) (env : Env) (nm : Nm) (m : AU) (name : Str) (pos : Pos) (args : List PySem.Expr) (kws : List Keyword) (Q : QE) : QE := fun p L => ∃ pf, HC X A name p L pf ∧ Bw X pf ∧ WEs X A env nm m (spliced (backTo pos (starEach args env))) L (KCk X A env nm m pos kws (KCn X A env pos kws Q p pf))
theorem QF {o : PySem.Expr} {apos : Pos} {pl : Sem Bool}
  (h : WE X A env nm m (eval o env) L (KMe X A env nm m name pos (e :: rest) kws Q))
  (hc : eval (.Call (.Attribute o name apos) (e :: rest) kws pos) env = (do
   let ov ← eval o env
   standAt apos.atName
   let (f, first) ← holding [ov] (getMethod ov name pl)
   callWith pos f first (backTo pos (starEach (e :: rest) env)) (backToKw pos (keywordEach kws env))))
  (he : starEach (e :: rest) env = (false, eval e env) :: starEach rest env)
  (hplain : ((backTo pos (starEach (e :: rest) env)).any (·.1) || (backToKw pos (keywordEach kws env)).any (·.1.isNone)) = false)
  (hall : (backToKw pos (keywordEach kws env)).all (·.1.isSome) = true) : WE X A env nm m (eval (.Call (.Attribute o name apos) (e :: rest) kws pos) env) L Q := fun Z s E F => by
 refine methodCall_KW (pl := pl) (wv (h Z s E F) fun v s1 p L1 o2 P1 V1 e1 => ?_) hc
 obtain ⟨pf, M, K, h1⟩ := o2
 refine M Z s1 pl v _ E P1 V1 fun fv s2 Vf k => ?_
 exact Ap (Gb K ((F.ext e1 P1).keeps k) Vf (.cons (V1.ext (.keeps k)) .nil) h1 he hplain hall) fun v s2 h2 => h2.after (e1.trans (.keeps k))
theorem BJ {id : String} (slot : Slot "list" name id) (hty : typeOf (.builtin id) = pure (.type "method_descriptor")) (l : LV L p ps) : HC X A name p L (.val (.builtin id)) := fun Z s pl v R E P V k => by
 revert k; apply l.el P V; intro a vs n ho r k
 exact getMethod_builtin ⟨_, ho, rfl⟩ PySem.F.plainAttrs_list slot hty (fun a e => by cases e; exact ⟨_, ho, rfl⟩) (k _ s (Ic _) (Ag s))
structure Eg (sc : Scope) : Prop where
 kind : sc.kind = .function
 nodup : (sc.names.map (·.1)).Nodup
 plain : ∀ x k, (x, k) ∈ sc.names → (x == ("__debug__" : Str)) = false ∧ (x == ("__classdict__" : Str)) = false
noncomputable def Str.code (x : Str) : Nat := x.cps.toList.foldl (fun n c => n * 1114113 + (c + 1)) 0
noncomputable def Dc : List Nat → Bool
 | [] => true
 | a :: r => r.all (fun b => !beq a b) && Dc r
theorem Ce : ∀ {l : List Nat}, Dc l = true → l.Nodup
 | [], _ => .nil
 | a :: r, h => by
  have h := Bool.and_eq_true_iff.mp h
  refine List.nodup_cons.mpr ⟨fun hm => ?_, Ce h.2⟩
  have := List.all_eq_true.mp h.1 a hm
  simp at this
noncomputable def NG (sc : Scope) : Bool :=
 let cs := sc.names.map fun x => Str.code x.1
 (match sc.kind with | .function => true | _ => false) && Dc (Str.code ("__debug__" : Str) :: cs) && Dc (Str.code ("__classdict__" : Str) :: cs)
theorem Ak (h : NG sc = true) : Eg sc := by
 have h := Bool.and_eq_true_iff.mp h
 have h1 := Bool.and_eq_true_iff.mp h.1
 have n1 := List.nodup_cons.mp (Ce h1.2)
 have n2 := List.nodup_cons.mp (Ce h.2)
 refine ⟨?_, ?_, fun x k hm => ⟨?_, ?_⟩⟩
 ·have := h1.1
  split at this
  ·assumption
  ·cases this
 ·have : (sc.names.map fun x => Str.code x.1) = (sc.names.map (·.1)).map Str.code := by rw [map_map]; rfl
  have n := n1.2
  rw [this] at n
  refine (List.pairwise_map.mp n).imp fun hne e => hne (by rw [e])
 ·refine beq_eq_false_iff_ne.mpr fun e => n1.1 ?_
  exact List.mem_map.mpr ⟨(x, k), hm, by rw [e]⟩
 ·refine beq_eq_false_iff_ne.mpr fun e => n2.1 ?_
  exact List.mem_map.mpr ⟨(x, k), hm, by rw [e]⟩
theorem Au {l : List (Str × α)} {k : α} (nd : (l.map (·.1)).Nodup) (hm : (x, k) ∈ l) : l.lookup x = some k := by
 induction l with
 | nil => cases hm
 | cons b r ih =>
  obtain ⟨y, z⟩ := b
  have nd := List.nodup_cons.mp nd
  rw [List.lookup_cons]
  rcases List.mem_cons.mp hm with e | hm2
  ·cases e; rw [beq_self_eq_true]
  ·have : (x == y) = false := beq_eq_false_iff_ne.mpr fun e => nd.1 (e ▸ List.mem_map.mpr ⟨(x, k), hm2, rfl⟩)
   rw [this]; exact ih nd.2 hm2
theorem Ji (kd : Str → Option NameKind) {m : Str → Option Value} (h : ∀ v, (x, v) ∉ binds) : bindL kd binds m x = m x := by
 induction binds generalizing m with
 | nil => rfl
 | cons b r ih =>
  show bindL kd r (if kd b.1 = some .local then fun n => if n = b.1 then some b.2 else m n else m) x = m x
  rw [ih fun v hm => h v (.tail _ hm)]
  have : x ≠ b.1 := fun e => h b.2 (by rw [e]; exact .head _)
  by_cases q : kd b.1 = some .local
  ·rw [if_pos q, if_neg this]
  ·rw [if_neg q]
theorem Jh (kd : Str → Option NameKind) {m : Str → Option Value} (h : ∀ v, (x, v) ∉ binds) : bindC kd binds m x = m x := by
 induction binds generalizing m with
 | nil => rfl
 | cons b r ih =>
  show bindC kd r (if kd b.1 = some .local then m else fun n => if n = b.1 then some b.2 else m n) x = m x
  rw [ih fun v hm => h v (.tail _ hm)]
  have : x ≠ b.1 := fun e => h b.2 (by rw [e]; exact .head _)
  by_cases q : kd b.1 = some .local
  ·rw [if_pos q]
  ·rw [if_neg q, if_neg this]
theorem DS {m : Str → Option Value} (nd : (binds.map (·.1)).Nodup) (hm : (x, v) ∈ binds) (hk : kd x = some .local) : bindL kd binds m x = some v := by
 induction binds generalizing m with
 | nil => cases hm
 | cons b r ih =>
  have nd := List.nodup_cons.mp nd
  show bindL kd r (if kd b.1 = some .local then fun n => if n = b.1 then some b.2 else m n else m) x = _
  rcases List.mem_cons.mp hm with e | hm
  ·subst e
   rw [Ji kd (fun v hm => nd.1 (List.mem_map.mpr ⟨_, hm, rfl⟩)), if_pos hk, if_pos rfl]
  ·exact ih nd.2 hm
theorem EZ {m : Str → Option Value} (nd : (binds.map (·.1)).Nodup) (hm : (x, v) ∈ binds) (hk : kd x = some .cell) : bindC kd binds m x = some v := by
 induction binds generalizing m with
 | nil => cases hm
 | cons b r ih =>
  have nd := List.nodup_cons.mp nd
  show bindC kd r (if kd b.1 = some .local then m else fun n => if n = b.1 then some b.2 else m n) x = _
  rcases List.mem_cons.mp hm with e | hm
  ·subst e
   rw [Jh kd (fun v hm => nd.1 (List.mem_map.mpr ⟨_, hm, rfl⟩)), if_neg (by rw [hk]; nofun), if_pos rfl]
  ·exact ih nd.2 hm
theorem AG : ∀ {names : List (Str × NameKind)} {n : Nat} {acc : List (Str × Addr)} {x : Str}, (x, NameKind.cell) ∈ names ∨ (acc.lookup x).isSome = true → ((cellsFrom n names acc).lookup x).isSome = true
 | [], _, _, _, h => h.elim (fun e => by cases e) id
 | (y, k) :: r, n, acc, x, h => by
  unfold cellsFrom
  by_cases hk : (k == NameKind.cell) = true
  ·rw [if_pos hk]
   refine AG (h.elim (fun e => ?_) fun e => .inr ?_)
   ·rcases List.mem_cons.mp e with e | e
    ·cases e; exact .inr (by simp [List.lookup_cons])
    ·exact .inl e
   ·rw [List.lookup_cons]
    split
    ·rfl
    ·exact e
  ·rw [if_neg hk]
   refine AG (h.elim (fun e => ?_) fun e => .inr e)
   rcases List.mem_cons.mp e with e | e
   ·cases e; exact absurd rfl hk
   ·exact .inl e
theorem Ck : ∀ {names : List (Str × NameKind)} {n : Nat} {acc : List (Str × Addr)}, (names.map (·.1)).Nodup → (acc.map (·.1)).Nodup → (∀ x ∈ acc.map (·.1), x ∉ names.map (·.1)) → ((cellsFrom n names acc).map (·.1)).Nodup
 | [], _, _, _, h, _ => h
 | (y, k) :: r, n, acc, nd, h, ha => by
  have nd := List.nodup_cons.mp nd
  unfold cellsFrom
  by_cases hk : (k == NameKind.cell) = true
  ·rw [if_pos hk]
   refine Ck nd.2 (List.nodup_cons.mpr ⟨fun hm => ha y hm (.head _), h⟩) fun x hx => ?_
   rcases List.mem_cons.mp hx with q | q
   ·rw [q]; exact nd.1
   ·exact fun hm => ha x q (.tail _ hm)
  ·rw [if_neg hk]
   exact Ck nd.2 h fun x hx hm => ha x hx (.tail _ hm)
inductive Eu (X9 : Cx) (bs9 : List (Str × PV)) : Nm → AU → Prop
 | nil : Eu X9 bs9 [] []
 | open_ {x k ns m : _} : Eu X9 bs9 ns m → Eu X9 bs9 ((x, k) :: ns) (none :: m)
 | param {x k p ns m : _} : (x, p) ∈ bs9 → (k = .local ∨ k = .cell) → Eu X9 bs9 ns m → Eu X9 bs9 ((x, k) :: ns) (some p :: m)
 | glob {x v ns m : _} : Da X9 x v → Eu X9 bs9 ns m → Eu X9 bs9 ((x, .globalImplicit) :: ns) (some (.val v) :: m)
theorem Eu.inv (I : Eu X bs ns m) : ∀ x k p, ((x, k), some p) ∈ ns.zip m → ((x, p) ∈ bs ∧ (k = .local ∨ k = .cell)) ∨ (k = .globalImplicit ∧ ∃ v, p = .val v ∧ Da X x v) := by
 induction I with
 | nil => intro x k p h; cases h
 | open_ _ ih =>
  intro x k p h; rcases List.mem_cons.mp h with e | h
  ·cases e
  ·exact ih x k p h
 | param h1 h2 _ ih =>
  intro x k p h; rcases List.mem_cons.mp h with e | h
  ·cases e; exact .inl ⟨h1, h2⟩
  ·exact ih x k p h
 | glob h1 _ ih =>
  intro x k p h; rcases List.mem_cons.mp h with e | h
  ·cases e; exact .inr ⟨rfl, _, rfl, h1⟩
  ·exact ih x k p h
theorem BO.mem {vs : List (Str × Value)} (K : BO D h bs vs) : ∀ {x : Str} {p : PV}, (x, p) ∈ bs → ∃ v, (x, v) ∈ vs ∧ Aj D h p v := by
 induction K with
 | nil => intro x p h; cases h
 | cons V _ ih =>
  intro x p h
  rcases List.mem_cons.mp h with e | h
  ·cases e; exact ⟨_, .head _, V⟩
  ·refine Ar (fun v hm V' => ?_) <| ih h; exact ⟨v, .tail _ hm, V'⟩
theorem BO.names {vs : List (Str × Value)} (K : BO D h bs vs) : vs.map (·.1) = bs.map (·.1) := by
 induction K with
 | nil => rfl
 | cons _ _ ih => simp [ih]
theorem AP (hs : ∀ a, a ∈ D' → a ∈ D) : Kp D D' h h := fun a o e n => ⟨e, fun hm => n (hs a hm)⟩
theorem Hp.shrink (P : Hp X H (Z' ++ Z) L s) : Hp X H Z L s := by
 have sub : ∀ a, a ∈ dz L Z → a ∈ dz L (Z' ++ Z) := fun a hm => (List.mem_append.mp hm).elim (mem_append_left _) fun q => mem_append_right _ (mem_append_right _ q)
 exact ⟨P.keep, P.os, P.bare, fun x hx => BP.kp (AP sub) (fun _ e => e) (P.led x hx), P.nodup, fun a ha => P.fresh a (sub a ha), fun a ha hz => P.apart a ha (mem_append_right _ hz), fun a ha => P.zone a (mem_append_right _ ha), P.held.kp (AP sub)⟩
theorem Aj.shrink (V : Aj (dz L (Z' ++ Z)) h p v) : Aj (dz L Z) h p v :=
 V.kp (AP fun a hm => (List.mem_append.mp hm).elim (mem_append_left _) fun q => mem_append_right _ (mem_append_right _ q))
theorem Hp.grow (P : Hp X H Z L s) (k : Keeps s s') (hz : ∀ a ∈ Z', s.heap.objs.size ≤ a ∧ ∃ o, s'.heap.get? a = some o) :
  Hp X H (Z' ++ Z) L s' ∧ Kp (dz L Z) (dz L (Z' ++ Z)) s.heap s'.heap := by
 refine B8 (fun h' tk e₀2 hk => ?_) <| k; obtain rfl := e₀2
 have kp : Kp (dz L Z) (dz L (Z' ++ Z)) s.heap h' := fun a o e n => ⟨hk a o e, fun hm => by
  rcases List.mem_append.mp hm with q | q
  ·exact n (mem_append_left _ q)
  ·rcases List.mem_append.mp q with q | q
   ·exact absurd (lt_size e) (Nat.not_lt.mpr (hz a q).1)
   ·exact n (mem_append_right _ q)⟩
 refine ⟨⟨fun b o e => hk b o (P.keep b o e), P.os, P.bare, fun x hx => BP.kp kp (fun _ e => hk _ _ e) (P.led x hx), P.nodup, fun a ha => ?_, fun a ha hm => ?_, fun a ha => ?_, P.held.kp kp⟩, kp⟩
 ·have fr : ∀ a, s.heap.objs.size ≤ a → X.h₀.get? a = none := fun a h => by
   cases e : X.h₀.get? a with
   | none => rfl
   | some o => exact absurd (lt_size (P.keep a o e)) (Nat.not_lt.mpr h)
  rcases List.mem_append.mp ha with q | q
  ·exact P.fresh a (mem_append_left _ q)
  ·rcases List.mem_append.mp q with q | q
   ·exact fr a (hz a q).1
   ·exact P.fresh a (mem_append_right _ q)
 ·rcases List.mem_append.mp hm with q | q
  ·exact absurd (P.lt (mem_append_left _ ha)) (Nat.not_lt.mpr (hz a q).1)
  ·exact P.apart a ha q
 ·rcases List.mem_append.mp ha with q | q
  ·exact (hz a q).2
  ·refine Ao (fun o e => ?_) <| P.zone a q; exact ⟨o, hk _ _ e⟩
def AA (X : Cx) (gl : List (Str × Value)) : Prop := ∀ x v, (x, v) ∈ gl → Da X x v
theorem AA.get {gl : List (Str × Value)} (G : AA X gl) (h : (x, v) ∈ gl) : Da X x v := G x v h
def AM (X : Cx) (fd : FuncData) (ps : List PV) (ks : List (Str × PV)) (bs : List (Str × PV)) : Prop :=
 ∀ (H : Option Value) Z L s vs kvs, Hp X H Z L s → Ae (dz L Z) s.heap ps vs → BO (dz L Z) s.heap ks kvs → ∃ binds, BindsTo s fd ⟨vs, kvs⟩ binds ∧ BO (dz L Z) s.heap bs binds
theorem FY (KX : K.In X.h₀) (e : ∀ v1 S, peek K S (bindArgs fd ⟨[v1], []⟩) = some [(n1, v1)]) : AM X fd [p1] [] [(n1, p1)] := fun H Z L s vs kvs P V Kr => by
 cases Kr
 apply V.cons_el; intro v1 r V1 V
 apply V.nil_el
 exact ⟨_, kp_binds (KX.keeps P.keep) (e v1), .cons V1 .nil⟩
theorem JM (KX : K.In X.h₀) (e : ∀ v1 v2 S, peek K S (bindArgs fd ⟨[v1, v2], []⟩) = some [(n1, v1), (n2, v2)]) : AM X fd [p1, p2] [] [(n1, p1), (n2, p2)] := fun H Z L s vs kvs P V Kr => by
 cases Kr
 apply V.cons_el; intro v1 r V1 V
 apply V.cons_el; intro v2 r V2 V
 apply V.nil_el
 exact ⟨_, kp_binds (KX.keeps P.keep) (e v1 v2), .cons V1 (.cons V2 .nil)⟩
theorem Ph (KX : K.In X.h₀) (e : ∀ v1 v2 v3 S, peek K S (bindArgs fd ⟨[v1, v2, v3], []⟩) = some [(n1, v1), (n2, v2), (n3, v3)]) : AM X fd [p1, p2, p3] [] [(n1, p1), (n2, p2), (n3, p3)] := fun H Z L s vs kvs P V Kr => by
 cases Kr
 apply V.cons_el; intro v1 r V1 V
 apply V.cons_el; intro v2 r V2 V
 apply V.cons_el; intro v3 r V3 V
 apply V.nil_el
 exact ⟨_, kp_binds (KX.keeps P.keep) (e v1 v2 v3), .cons V1 (.cons V2 (.cons V3 .nil))⟩
theorem Pi (KX : K.In X.h₀) (e : ∀ v1 v2 v3 v4 S, peek K S (bindArgs fd ⟨[v1, v2, v3, v4], []⟩) = some [(n1, v1), (n2, v2), (n3, v3), (n4, v4)]) : AM X fd [p1, p2, p3, p4] [] [(n1, p1), (n2, p2), (n3, p3), (n4, p4)] := fun H Z L s vs kvs P V Kr => by
 cases Kr
 apply V.cons_el; intro v1 r V1 V
 apply V.cons_el; intro v2 r V2 V
 apply V.cons_el; intro v3 r V3 V
 apply V.cons_el; intro v4 r V4 V
 apply V.nil_el
 exact ⟨_, kp_binds (KX.keeps P.keep) (e v1 v2 v3 v4), .cons V1 (.cons V2 (.cons V3 (.cons V4 .nil)))⟩
def Hc (X : Cx) (A : Around) (fv : Value) (ps : List PV) (ks : List (Str × PV)) (L : Ai) (Q : QE) : Prop :=
 ∀ (Z : List Addr) (s : Shared) (E : QV) (vs : List Value) (kvs : List (Str × Value)), Hp X A.handled Z L s → Ae (dz L Z) s.heap ps vs → BO (dz L Z) s.heap ks kvs → codeAny X.M A (.call fv ⟨vs, kvs⟩) (fun r s' => match r with | .ok (.ret v) => Be X A.handled Z L s Q v s' | .ok _ => False | .error e => E e s') s
theorem Hh {sl : Array (Option Value)}
  (ho : X.h₀.get? fa = some ⟨oc, od, .func fd, sl⟩) (hcd : X.h₀.CodeRec fd.code fd.qualname) (hroom : A.depth < recursionLimit) (hsc : Eg fd.scope) (hbind : AM X fd ps ks bs) (bn : List Str) (hb0 : bs.map (·.1) = bn) (hbn : Dc (bn.map Str.code) = true)
  (hbk : ∀ x ∈ bn, (x, NameKind.local) ∈ fd.scope.names ∨ (x, NameKind.cell) ∈ fd.scope.names) (I : Eu X bs fd.scope.names m₀) (hnf : ∀ x ∈ fd.scope.names, x.2 ≠ .free)
  (h : ∀ env : Env, A8 env fd.scope.names → env.func = some fa → env.code = fd.code → env.qual = fd.qualname ++ ".<locals>." → env.frame = some env.locals → WS X (A.deeper env) env fd.scope.names m₀ (execs body env) L (fun _ L' => Q .none L') Q (fun _ _ => False) (fun _ _ => False))
  (hbody : fd.body = .stmts body) (hclo : fd.closure = []) (hg : fd.globals = mainGlobals) (hb : fd.builtins = builtinsNs) (hco : fd.scope.isCoroutine = false) (hgen : fd.scope.isGenerator = false) :
  Hc X A (.ref fa) ps ks L Q := fun Z s E vs kvs P Vs Ks => by
 subst hb0
 have hbn : (bs.map (·.1)).Nodup := (List.pairwise_map.mp (Ce hbn)).imp fun hne e => hne (by rw [e])
 refine Ar (fun binds hB KB => ?_) <| hbind _ Z L s vs kvs P Vs Ks
 refine codeAny_call_function hroom (P.keep _ _ ho) rfl hco hgen hbody (hcd.keeps P.keep) (hB _ _ _ _ ?_)
 rw [hclo]
 refine wpAny_newFunctionEnv_cells hsc.kind (fun x hx => ?_) fun env he s₁ x => ?_
 ·have hx' : x.1 ∈ bs.map (·.1) := by rw [← KB.names]; exact mem_map_of_mem hx
  rcases hbk _ hx' with q | q
  ·exact .inl (Au hsc.nodup q)
  ·exact .inr ⟨Au hsc.nodup q, AG (.inl q)⟩
 refine B8 (fun h₁ tk hs₁ hk₁ => ?_) <| x.done
 have k1 : Keeps s s₁ := ⟨h₁, tk, hs₁, hk₁⟩
 have hL : env.locals = s.heap.objs.size := by rw [he]; rfl
 have hcells : env.cells = cellsFrom (s.heap.objs.size + 1) fd.scope.names [] := by rw [he]; rfl
 have hkd : ∀ y k, (y, k) ∈ fd.scope.names → env.kindOf y = some k := fun y k hm => by rw [he]; exact Au hsc.nodup hm
 have cinj : ∀ y z c, env.cells.lookup y = some c → env.cells.lookup z = some c → y = z := fun y z c h1 h2 => name_of_addr x.apart (mem_of_lookup h1) (mem_of_lookup h2)
 have ok : A8 env fd.scope.names := by
  refine ⟨by rw [he]; exact hsc.kind, by rw [he]; exact hg, by rw [he]; exact hb, fun y k hm => ⟨.inl (hkd y k hm), hsc.plain y k hm⟩, fun y k hm hk => ?_, hsc.nodup, cinj⟩
  rcases hk with rfl | rfl
  ·have := AG (n := s.heap.objs.size + 1) (acc := []) (.inl hm)
   rw [hcells]; exact Option.isSome_iff_exists.mp this
  ·exact absurd rfl (hnf _ hm)
 have hzone : ∀ a ∈ env.locals :: env.cells.map (·.2), s.heap.objs.size ≤ a ∧ ∃ o, s₁.heap.get? a = some o := fun a ha => by
  rcases List.mem_cons.mp ha with rfl | ha
  ·refine CQ (fun o _ _ e _ => ?_) <| x.toInCall.ns
   exact ⟨le_of_eq hL.symm, o, e⟩
  ·refine Ar (fun o₀0 hm e₀2 => ?_) <| List.mem_map.mp ha; obtain ⟨y, c⟩ := o₀0; obtain rfl := e₀2
   have hl : env.cells.lookup y = some c := by
    refine Au ?_ hm
    rw [hcells]
    exact Ck hsc.nodup .nil (fun x hx => by cases hx)
   refine Ar (fun o e _ => ?_) <| x.cell y c hl
   have := x.above y c hm
   rw [hL] at this
   exact ⟨le_of_lt this, o, e⟩
 refine Av (fun P1 kp1 => ?_) <| P.grow k1 hzone
 have F : Fm X A.handled (env.locals :: env.cells.map (·.2) ++ Z) env fd.scope.names m₀ L s₁ := by
  refine ⟨P1, ok, fun y k p hm => ?_, ⟨_, x.toInCall.ns⟩, by simp, fun y c e => ?_⟩
  ·rcases I.inv y k p hm with ⟨hb, hk⟩ | ⟨rfl, hgl⟩
   ·refine Ar (fun v hv V => ?_) <| KB.mem hb
    have ndb : (binds.map (·.1)).Nodup := by rw [KB.names]; exact hbn
    have hm' := (of_mem_zip hm).1
    rcases hk with rfl | rfl
    ·exact ⟨_, v, x.toInCall.ns, DS ndb hv (hkd _ _ hm'), V.kp kp1⟩
    ·refine Ao (fun c hc => ?_) <| ok.cells y .cell hm' (.inl rfl)
     exact ⟨c, v, hc, by have := x.cell y c hc; rw [EZ ndb hv (hkd _ _ hm')] at this; exact this, V.kp kp1⟩
   ·exact hgl
  ·have hm := mem_of_lookup e
   have hlt := x.above y c hm
   refine ⟨by simp; exact .inr (.inl ⟨y, hm⟩), ne_of_gt hlt, _, x.cell y c e⟩
 refine ⟨(X.nolimit.keeps P.keep).keeps hk₁ |> fun q => by rw [hs₁]; exact q, codeAny_func (Ap (h env ok (by rw [he]; rfl) (by rw [he]; rfl) (by rw [he]; rfl) (by rw [he]; rfl) _ s₁ _ F) fun f s2 h2 => ?_)⟩
 obtain ⟨pf, m', L', q, F2, r, e2⟩ := h2
 have ext : BF L L' s s2 := by
  refine ⟨fun a o e n => ?_, fun g z e => e2.gens g z (by rw [hs₁]; exact e), fun a o e => e2.live a o (by rw [hs₁]; exact hk₁ a o e)⟩
  have hlt := lt_size e
  refine e2.heap a o (by rw [hs₁]; exact hk₁ a o e) n (by rw [hL]; exact ne_of_lt hlt) fun y _ hy => ?_
  have := x.above y a (mem_of_lookup hy)
  rw [hL] at this
  exact Nat.lt_asymm this hlt
 have PL : Hp X A.handled Z L' s2 := F2.hp.shrink
 cases pf with
 | ret p => refine Ar (fun v e₀1 V => ?_) <| r; obtain rfl := e₀1; exact ⟨p, L', q, PL, V.shrink, ext⟩
 | next => rw [r]; exact ⟨.none, L', q, PL, AS, ext⟩
 | brk => exact q.elim
 | cont => exact q.elim
theorem Ip {sl : Array (Option Value)}
  (ho : X.h₀.get? fa = some ⟨oc, od, .func fd, sl⟩) (hcd : X.h₀.CodeRec fd.code fd.qualname) (hroom : A.depth < recursionLimit) (hsc : Eg fd.scope) (hbind : AM X fd ps ks bs) (bn : List Str) (hb0 : bs.map (·.1) = bn) (hbn : Dc (bn.map Str.code) = true)
  (hbk : ∀ x ∈ bn, (x, NameKind.local) ∈ fd.scope.names ∨ (x, NameKind.cell) ∈ fd.scope.names) (I : Eu X bs fd.scope.names m₀) (hnf : ∀ x ∈ fd.scope.names, x.2 ≠ .free)
  (h : ∀ env : Env, A8 env fd.scope.names → env.func = some fa → env.code = fd.code → env.qual = fd.qualname ++ ".<locals>." → WS X (A.deeper env) env fd.scope.names m₀ (execs body env) L (fun _ L' => Q .none L') Q (fun _ _ => False) (fun _ _ => False))
  (hbody : fd.body = .stmts body) (hclo : fd.closure = []) (hg : fd.globals = mainGlobals) (hb : fd.builtins = builtinsNs) (hco : fd.scope.isCoroutine = false) (hgen : fd.scope.isGenerator = false) :
  Hc X A (.ref fa) ps ks L Q := Hh ho hcd hroom hsc hbind bn hb0 hbn hbk I hnf (fun env ok h1 h2 h3 _ => h env ok h1 h2 h3) hbody hclo hg hb hco hgen
theorem BE {sl : Array (Option Value)}
  (ho : X.h₀.get? fa = some ⟨oc, od, .func fd, sl⟩) (hcd : X.h₀.CodeRec fd.code fd.qualname) (hroom : A.depth < recursionLimit) (hsc : Eg fd.scope) (hbind : AM X fd ps ks bs) (bn : List Str) (hb0 : bs.map (·.1) = bn) (hbn : Dc (bn.map Str.code) = true)
  (hbk : ∀ x ∈ bn, (x, NameKind.local) ∈ fd.scope.names ∨ (x, NameKind.cell) ∈ fd.scope.names) (I : Eu X bs fd.scope.names m₀) (hnf : ∀ x ∈ fd.scope.names, x.2 ≠ .free)
  (h : ∀ env : Env, A8 env fd.scope.names → env.func = some fa → env.code = fd.code → env.qual = fd.qualname ++ ".<locals>." → WS X (A.deeper env) env fd.scope.names m₀ (execs body env) L (fun _ L' => Q .none L') Q (fun _ _ => False) (fun _ _ => False))
  (hbody : fd.body = .stmts body) (hclo : fd.closure = []) (hg : fd.globals = mainGlobals) (hb : fd.builtins = builtinsNs) (hco : fd.scope.isCoroutine = false) (hgen : fd.scope.isGenerator = false) :
  As X A (.val (.ref fa)) ps ks L Q := fun Z s E fv vs kvs P Vf Vs Ks => by
 apply AI Vf
 exact wpAny_call (Ip ho hcd hroom hsc hbind bn hb0 hbn hbk I hnf h hbody hclo hg hb hco hgen Z s E vs kvs P Vs Ks)
def Dy (A : Around) (d : Nat × Nat) : Prop := A.depth ≤ d.1 ∧ A.units ≤ d.2
def dd (A : Around) : Nat × Nat := (A.depth, A.units)
theorem AR (A : Around) : Dy A (dd A) := ⟨le_refl _, le_refl _⟩
theorem CB (h : Dy A d) : Dy A.in1 (d.1, d.2 + 1) := ⟨h.1, succ_le_succ h.2⟩
theorem GU : entryFor table "proto.unchain" = some Builtin.«proto.unchain» := entryFor_of_fast (by kernel_rfl)
section
variable {R : α → Shared → Prop}
theorem Ec (hd : Lo D s.heap A.handled)
  (h : ∀ h' e, (∀ b o, s.heap.get? b = some o → h'.get? b = some o) → s.heap.objs.size ≤ e → (∃ o, h'.get? e = some o ∧ o.cls = .type "StopIteration") → E (.ref e) { s with heap := h' }) :
  wpAny (model prog w) A (newExc (.type "StopIteration") [] >>= fun x => raiseNew x) R E s := by
 refine wpAny_bind ?_
 simp only [newExc, newTuple]
 refine wpAny_bind (wpAny_newObj_type ?_ (by size_fits))
 refine wpAny_bind (m := firstArgMember _ _) (wpAny_of_eq (a := Value.none) (by first | rfl | (simp only [firstArgMember]; rfl)) ?_)
 refine wpAny_newObj_type ?_ (by size_fits)
 simp only [raiseNew]
 generalize hh : A.handled = H at hd
 cases H with
 | none =>
  refine wpAny_bind (wpAny_handled ?_)
  rw [hh]
  refine wpAny_bind (wpAny_pure (wpAny_throw ?_))
  refine h _ _ (fun b o e => get?_push_of_some _ (get?_push_of_some _ e)) ?_ ⟨_, get?_push_size _ rfl, rfl⟩
  exact le_of_lt (by rw [size_push]; exact lt_succ_self _)
 | some v =>
  refine QM (fun x o vs e₀3 ho hn hdt h2 => ?_) <| hd; obtain rfl := e₀3
  have hx := lt_size ho
  refine wpAny_bind (wpAny_handled ?_)
  rw [hh]
  generalize hp : (s.heap.push { cls := .type "tuple", dict := none, data := .seq #[] 0 }) = h1
  have hk1 : ∀ b o, s.heap.get? b = some o → h1.get? b = some o := fun b o e => by rw [← hp]; exact get?_push_of_some _ e
  have hsz : h1.objs.size = s.heap.objs.size + 1 := by rw [← hp, size_push]
  have hne : (Value.ref x != Value.ref h1.objs.size) = true := bne_iff_ne.mpr fun q => by
   injection q with q
   rw [q, hsz] at hx
   exact lt_irrefl _ (Nat.lt_trans (lt_succ_self _) hx)
  dsimp only
  rw [if_pos hne]
  have hu : wpAny (model prog w) A (runValue (.builtin "proto.unchain" ⟨[Value.ref h1.objs.size, .ref x, .ref x, .bool false], []⟩)) (fun _ s' => s' = { s with heap := h1.push { cls := .type "StopIteration", dict := none, data := .fields (#[Value.ref s.heap.objs.size, .none, .none, .none, .bool false, .none] ++ ownMembersOf (.type "StopIteration") []) } }) E { s with heap := h1.push { cls := .type "StopIteration", dict := none, data := .fields (#[Value.ref s.heap.objs.size, .none, .none, .none, .bool false, .none] ++ ownMembersOf (.type "StopIteration") []) } } := by
   refine runValue_entry (b := Builtin.«proto.unchain») GU ?_
   show wpAny _ _ (field (.ref x) 2 >>= _) _ _ _
   refine wpAny_bind (wpAny_field (get?_push_of_some _ (hk1 _ _ ho)) hdt (x := .none) h2 ?_)
   exact wpAny_pure ⟨_, rfl, rfl⟩
  refine wpAny_bind (wpAny_holding (wpAny_mono hu (fun _ s2 h2' => ?_) fun _ _ e => e))
  rw [h2']
  refine wpAny_bind (m := setField (.ref h1.objs.size) 2 (.ref x)) ?_
  refine wpAny_setField (get?_push_size _ rfl) rfl (by rw [Array.size_append]; exact Nat.lt_add_right _ (by decide : 2 < 6)) (wpAny_throw ?_)
  refine h _ _ (fun b o e => ?_) (by rw [hsz]; exact le_of_lt (lt_succ_self _)) ⟨_, get?_update_self _ (get?_push_size _ rfl) rfl, rfl⟩
  have e2 := get?_push_of_some { cls := .type "StopIteration", dict := none, data := .fields (#[Value.ref s.heap.objs.size, .none, .none, .none, .bool false, .none] ++ ownMembersOf (.type "StopIteration") []) } (hk1 b o e)
  refine ((Heap.SameBut.update ..).2 b fun q => ?_).trans e2
  have := lt_size e
  rw [q, hsz] at this
  exact lt_irrefl _ (Nat.lt_trans (lt_succ_self _) this)
end
def Nx (wr : List Addr) (gn : List Nat) (s s' : Shared) : Prop :=
 (∀ b o, b ∉ wr → s.heap.get? b = some o → s'.heap.get? b = some o) ∧ (∀ (g : Nat) (x : GenState), g ∉ gn → s.gens[g]? = some x → s'.gens[g]? = some x)
theorem Nx.sub {wr' : List Addr} {gn' : List Nat} (x : Nx wr gn s s') (h : ∀ b ∈ wr, b ∈ wr') (h' : ∀ b ∈ gn, b ∈ gn') : Nx wr' gn' s s' :=
 ⟨fun b o n e => x.1 b o (fun q => n (h b q)) e, fun g y n e => x.2 g y (fun q => n (h' g q)) e⟩
theorem Nx.trans (x : Nx wr gn s s') (y : Nx wr gn s' s'') : Nx wr gn s s'' :=
 ⟨fun b o n e => y.1 b o n (x.1 b o n e), fun g z n e => y.2 g z n (x.2 g z n e)⟩
theorem Hp.nx (P : Hp X H Z L s) (hw : ∀ b ∈ wr, b ∈ Z)
  (hk : ∀ b o, b ∉ wr → s.heap.get? b = some o → s'.heap.get? b = some o) (hz : ∀ b ∈ wr, ∃ o, s'.heap.get? b = some o) (ho : s'.os = s.os) (hb : AllBare s'.gens) :
  Hp X H Z L s' ∧ Kp (dz L Z) (dz L Z) s.heap s'.heap := by
 have kp : Kp (dz L Z) (dz L Z) s.heap s'.heap := fun b o e n => ⟨hk b o (fun q => n (mem_append_right _ (hw b q))) e, n⟩
 refine ⟨⟨fun b o e => hk b o (fun q => ?_) (P.keep b o e), ho.trans P.os, hb, fun x hx => BP.kp kp (fun ob e => hk _ _ (fun q => P.apart _ (AX hx) (hw _ q)) e) (P.led x hx), P.nodup, P.fresh, P.apart,
  fun b hb => ?_, P.held.kp kp⟩, kp⟩
 ·exact P.base e (mem_append_right _ (hw b q))
 ·by_cases q : b ∈ wr
  ·exact hz b q
  ·refine Ao (fun o e => ?_) <| P.zone b hb
   exact ⟨o, hk _ _ q e⟩
abbrev I2 : Str := ofString "__next__"
structure Eh (X : Cx) (H : Option Value) (d : Nat × Nat) (I : Addr) (wr : List Addr) (gn : List Nat) (ps : List PV) (Ok : Ai → Prop) (St : Nat → List Addr → Shared → Prop) : Prop where
 mem : I ∈ wr
 mono : ∀ i D D' s s', St i D s → Kp D D' s.heap s'.heap → (∀ b ∈ wr, ∀ o, s.heap.get? b = some o → s'.heap.get? b = some o) → (∀ (g : Nat) (x : GenState), s.gens[g]? = some x → s'.gens[g]? = some x) → St i D' s'
 item : ∀ A i p Z L s E (R : Option Value → Shared → Prop), A.handled = H → Dy A d → ps[i]? = some p → Ok L → Hp X H Z L s → (∀ b ∈ wr, b ∈ Z) → St i (dz L Z) s →
  (∀ v s', Aj (dz L Z) s'.heap p v → Hp X H Z L s' → St (i + 1) (dz L Z) s' → Nx wr gn s s' → R (some v) s') → wpAny X.M A (callSpecial? (.ref I) I2) R E s
 done : ∀ A Z L s E (R : Option Value → Shared → Prop), A.handled = H → Dy A d → Ok L → Hp X H Z L s → (∀ b ∈ wr, b ∈ Z) → St ps.length (dz L Z) s →
  (∀ e s', Hp X H Z L s' → Nx wr gn s s' → (∃ o, s'.heap.get? e = some o ∧ o.cls = .type "StopIteration") → E (.ref e) s') → wpAny X.M A (callSpecial? (.ref I) I2) R E s
 self : ∀ A i D s E (R : QV), St i D s → R (.ref I) s → wpAny X.M A (pyIter (.ref I)) R E s
 free : ∀ A i D s E elts x1 pos v (R : Unit → Shared → Prop), St i D s → R () s → wpAny X.M A (letOwnedTupleGo (.Tuple elts x1 pos) (.ref I) v) R E s
structure Ei (X : Cx) (H : Option Value) (d : Nat × Nat) (tg : PySem.Expr → Prop) (I : Addr) (wr : List Addr) (gn : List Nat) (ps : List PV) (Ok : Ai → Prop) (St : Nat → List Addr → Shared → Prop) : Prop where
 mono : ∀ i D D' s s', St i D s → Kp D D' s.heap s'.heap → (∀ b ∈ wr, ∀ o, s.heap.get? b = some o → s'.heap.get? b = some o) → (∀ (g : Nat) (x : GenState), s.gens[g]? = some x → s'.gens[g]? = some x) → St i D' s'
 item : ∀ A i p Z L s E E' target (R : QV), A.handled = H → Dy A d → tg target → ps[i]? = some p → Ok L → Hp X H Z L s → (∀ b ∈ wr, b ∈ Z) → St i (dz L Z) s →
  (∀ v s', Aj (dz L Z) s'.heap p v → Hp X H Z L s' → St (i + 1) (dz L Z) s' → Nx wr gn s s' → R v s') →
  wpAny X.M A (pyNext (.ref I)) (fun r s1 => ∃ v, r = some v ∧ wpAny X.M A (letOwnedTupleGo target (.ref I) v) (fun _ s2 => R v s2) E' s1) E s
 done : ∀ A Z L s E (R : Option Value → Shared → Prop), A.handled = H → Dy A d → Ok L → Hp X H Z L s → (∀ b ∈ wr, b ∈ Z) → St ps.length (dz L Z) s →
  (∀ s', Hp X H Z L s' → Nx wr gn s s' → R none s') → wpAny X.M A (pyNext (.ref I)) R E s
 self : ∀ A i D s E (R : QV), St i D s → R (.ref I) s → wpAny X.M A (pyIter (.ref I)) R E s
structure DB (X : Cx) (H : Option Value) (d : Nat × Nat) (tg : PySem.Expr → Prop) (I : Addr) (gn : List Nat) (ps : List PV) (Ok : Ai → Prop) (St : Nat → List Addr → List Addr → Shared → Prop) : Prop where
 mono : ∀ i pv D D' s s', St i pv D s → Kp D D' s.heap s'.heap → (∀ b ∈ pv, ∀ o, s.heap.get? b = some o → s'.heap.get? b = some o) → (∀ (g : Nat) (x : GenState), s.gens[g]? = some x → s'.gens[g]? = some x) → St i pv D' s'
 item : ∀ A i p pv Z L s E E' target (R : QV), A.handled = H → Dy A d → tg target → ps[i]? = some p → Ok L → Hp X H Z L s → (∀ b ∈ pv, b ∈ Z) → St i pv (dz L Z) s →
  (∀ v s' Zn pv', Aj (dz L (Zn ++ Z)) s'.heap p v → Hp X H (Zn ++ Z) L s' → St (i + 1) pv' (dz L (Zn ++ Z)) s' → (∀ b ∈ pv', b ∈ pv ∨ b ∈ Zn) → (∀ b ∈ Zn, s.heap.get? b = none) → Nx pv gn s s' → R v s') →
  wpAny X.M A (pyNext (.ref I)) (fun r s1 => ∃ v, r = some v ∧ wpAny X.M A (letOwnedTupleGo target (.ref I) v) (fun _ s2 => R v s2) E' s1) E s
 done : ∀ A pv Z L s E (R : Option Value → Shared → Prop), A.handled = H → Dy A d → Ok L → Hp X H Z L s → (∀ b ∈ pv, b ∈ Z) → St ps.length pv (dz L Z) s →
  (∀ s', Hp X H Z L s' → Nx pv gn s s' → R none s') → wpAny X.M A (pyNext (.ref I)) R E s
 self : ∀ A i pv D s E (R : QV), St i pv D s → R (.ref I) s → wpAny X.M A (pyIter (.ref I)) R E s
theorem Ei.dyn {Ok : Ai → Prop} (T : Ei X H d tg I wr gn ps Ok St) :
  DB X H d tg I gn ps Ok (fun i pv D s => pv = wr ∧ St i D s) where
 mono := fun i pv D D' s s' ⟨e, st⟩ kp hk hg => ⟨e, T.mono i D D' s s' st kp (e ▸ hk) hg⟩
 item := fun A i p pv Z L s E E' target R hA hd ht hp ok P hw st h => by
  obtain ⟨rfl, st⟩ := st
  exact T.item A i p Z L s E E' target R hA hd ht hp ok P hw st fun v s' V P' st' N => h v s' [] pv V P' ⟨rfl, st'⟩ (fun b hb => .inl hb) (fun b hb => by cases hb) N
 done := fun A pv Z L s E R hA hd ok P hw st h => by
  obtain ⟨rfl, st⟩ := st
  exact T.done A Z L s E R hA hd ok P hw st h
 self := fun A i pv D s E R st hR => T.self A i D s E R st.2 hR
section
variable {Ok : Ai → Prop}
theorem Eh.next (S : Eh X H d I wr gn ps Ok St) {R : Option Value → Shared → Prop} (hA : A.handled = H) (hd : Dy A d)
  (hp : ps[i]? = some p) (ok : Ok L) (P : Hp X H Z L s) (hw : ∀ b ∈ wr, b ∈ Z) (st : St i (dz L Z) s) (h : ∀ v s', Aj (dz L Z) s'.heap p v → Hp X H Z L s' → St (i + 1) (dz L Z) s' → Nx wr gn s s' → R (some v) s') :
  wpAny X.M A (pyNext (.ref I)) R E s := by
 unfold pyNext
 exact wpAny_bind (wpAny_attempt (S.item A i p Z L s _ _ hA hd hp ok P hw st fun v s' V P' st' nx => wpAny_pure (h v s' V P' st' nx)))
theorem Eh.end_ (S : Eh X H d I wr gn ps Ok St) {R : Option Value → Shared → Prop} (hA : A.handled = H) (hd : Dy A d)
  (ok : Ok L) (P : Hp X H Z L s) (hw : ∀ b ∈ wr, b ∈ Z) (st : St ps.length (dz L Z) s) (h : ∀ s', Hp X H Z L s' → Nx wr gn s s' → R none s') :
  wpAny X.M A (pyNext (.ref I)) R E s := by
 unfold pyNext
 refine wpAny_bind (wpAny_attempt (S.done A Z L s _ _ hA hd ok P hw st fun e s' P' nx hs => ?_))
 refine Ar (fun o ho hc => ?_) <| hs
 exact wpAny_bind (wpAny_isInstance (T := "StopIteration") (b := true) ⟨o, ho, hc⟩ isSubtype_stop (wpAny_pure (h s' P' nx)))
theorem Eh.endOf (S : Eh X H d I wr gn ps Ok St) (hA : A.handled = H) (hd : Dy A d)
  (ok : Ok L) (P : Hp X H Z L s) (hw : ∀ b ∈ wr, b ∈ Z) (st : St ps.length (dz L Z) s) (h : ∀ e s', Hp X H Z L s' → Nx wr gn s s' → (∃ o, s'.heap.get? e = some o ∧ o.cls = .type "StopIteration") → E (.ref e) s') :
  wpAny X.M A (Builtin.SmallTypes.nextOf (.ref I)) R E s := by
 unfold Builtin.SmallTypes.nextOf
 exact wpAny_bind (S.done A Z L s _ _ hA hd ok P hw st h)
def Bx : PySem.Expr → Prop
 | .Tuple .. => True
 | _ => False
def Ay : PySem.Expr → Prop
 | .Name .. => True
 | .Tuple .. => True
 | _ => False
theorem Eh.turn (S : Eh X H d I wr gn ps Ok St) : Ei X H d Ay I wr gn ps Ok St where
 mono := S.mono
 item := fun A i p Z L s E E' target R hA hd ht hp ok P hw st h => S.next hA hd hp ok P hw st fun v s' V P' st' nx => by
  refine ⟨v, rfl, ?_⟩
  cases target with
  | Name x pos => exact wpAny_pure (h v s' V P' st' nx)
  | Tuple elts x1 pos => exact S.free A (i + 1) _ s' E' elts x1 pos v _ st' (h v s' V P' st' nx)
  | _ => exact ht.elim
 done := fun A Z L s E R hA hd ok P hw st h => S.end_ hA hd ok P hw st h
 self := S.self
end
theorem Kg (hs : ∀ b o, b ≠ I → s.heap.get? b = some o → h'.get? b = some o) : Nx [I] [] s { s with heap := h', toks := tk } :=
 ⟨fun b o n e => hs b o (fun q => n (by simp [q])) e, fun _ _ _ e => e⟩
theorem DW {o : Obj} {vs : Array Value} {x1} {R : Unit → Shared → Prop}
  (ho : s.heap.get? I = some o) (hc : o.cls = .type T) (hd : o.data = .fields vs) (hT : ["enumerate", "zip", "dict_itemiterator", "dict_reverseitemiterator", "odict_iterator", "itertools.zip_longest", "itertools.pairwise"].contains T = false)
  (h : R () s) : wpAny (model prog w) A (letOwnedTupleGo (.Tuple elts x1 pos) (.ref I) v) R E s := by
 unfold letOwnedTupleGo
 cases v with
 | ref a =>
  refine wpAny_bind (wpAny_load ho ?_)
  rw [hc, hd]
  show wpAny _ A (if (["enumerate", "zip", "dict_itemiterator", "dict_reverseitemiterator", "odict_iterator", "itertools.zip_longest", "itertools.pairwise"].contains T && vs[0]? == some (rawInt a)) = true then _ else _) _ _ s
  rw [hT, Bool.false_and, if_neg (by decide)]
  exact wpAny_pure h
 | _ => exact wpAny_pure h
theorem Eh.list {l : Addr} : Eh X H d I [I] [] ps (fun L => LV L p ps) (fun i D s => s.heap.IsListIter I l i ∧ Aj D s.heap p (.ref l)) where
 mem := by simp
 mono := fun i D D' s s' st kp hw _ => by
  refine Av (fun o₀0 V => ?_) <| st; obtain ⟨o, ho, r⟩ := o₀0
  exact ⟨⟨o, hw I (by simp) o ho, r⟩, V.kp kp⟩
 item := fun A i q Z L s E R hA hd hp ok P hw st h => by
  refine Av (fun o₀0 V => ?_) <| id st; obtain ⟨o, ho, hc, hdt⟩ := o₀0
  refine BZ (fun a vs n ea hl rl => ?_) <| ok.at P V
  cases ea
  refine Ar (fun x hx Vx => ?_) <| rl.get hp
  refine wpAny_callSpecial?_slot (name := ofString "__next__") st.1.typeIs slot_listiter_next (wpAny_call_entry slot_listiter_next st.1.typeIs entry_listiter_next ?_ (args_listiter_next _))
  show wpAny _ _ (field (.ref I) 0 >>= _) _ _ s
  refine wpAny_bind (wpAny_field ho hdt (x := .ref l) rfl ?_)
  show wpAny _ _ (if (Value.ref l == Value.none) = true then _ else _) _ _ s
  rw [if_neg (show ¬ ((Value.ref l == Value.none) = true) from Bool.false_ne_true)]
  show wpAny _ _ (field (.ref I) 1 >>= _) _ _ s
  refine wpAny_bind (wpAny_field ho hdt (x := .int i 0) rfl ?_)
  show wpAny _ _ (seqItems? (.ref l) >>= _) _ _ s
  refine wpAny_bind (wpAny_seqItems hl rfl ?_)
  have hx' : vs.toArray[i]? = some x := by simpa using hx
  simp only [toNat_natCast, hx']
  refine wpAny_bind (wpAny_setField ho hdt (by simp) (wpAny_pure ⟨x, rfl, ?_⟩))
  have hs := (Heap.SameBut.update s.heap I (Obj.mapFields (·.setIfInBounds 1 (rawInt ((i : Int) + 1)))))
  have hit : (s.heap.update I (Obj.mapFields (·.setIfInBounds 1 (rawInt ((i : Int) + 1))))).IsListIter I l (i + 1) := ⟨_, get?_update_self _ ho (Obj.isFreed_of_fields (Obj.data_mapFields hdt _)), (Obj.cls_mapFields ..).trans hc, by
   rw [Obj.data_mapFields hdt]; simp [rawInt]⟩
  have N : Nx [I] [] s { s with heap := s.heap.update I (Obj.mapFields (·.setIfInBounds 1 (rawInt ((i : Int) + 1)))) } := Kg (tk := s.toks) fun b o n e => (hs.2 b n).trans e
  refine Av (fun P' kp => ?_) <| P.nx hw N.1 (Lz (let ⟨o, e, _⟩ := hit; ⟨o, e⟩)) rfl P.bare
  exact h x _ (Vx.kp kp) P' ⟨hit, V.kp kp⟩ N
 done := fun A Z L s E R hA hd ok P hw st h => by
  refine Av (fun o₀0 V => ?_) <| id st; obtain ⟨o, ho, hc, hdt⟩ := o₀0
  refine BZ (fun a vs n ea hl rl => ?_) <| ok.at P V
  cases ea
  refine wpAny_callSpecial?_slot (name := ofString "__next__") st.1.typeIs slot_listiter_next (wpAny_call_entry slot_listiter_next st.1.typeIs entry_listiter_next ?_ (args_listiter_next _))
  show wpAny _ _ (field (.ref I) 0 >>= _) _ _ s
  refine wpAny_bind (wpAny_field ho hdt (x := .ref l) rfl ?_)
  show wpAny _ _ (if (Value.ref l == Value.none) = true then _ else _) _ _ s
  rw [if_neg (show ¬ ((Value.ref l == Value.none) = true) from Bool.false_ne_true)]
  show wpAny _ _ (field (.ref I) 1 >>= _) _ _ s
  refine wpAny_bind (wpAny_field ho hdt (x := .int ps.length 0) rfl ?_)
  show wpAny _ _ (seqItems? (.ref l) >>= _) _ _ s
  refine wpAny_bind (wpAny_seqItems hl rfl ?_)
  have hx' : vs.toArray[ps.length]? = none := by simp [rl.length]
  simp only [toNat_natCast, hx']
  refine wpAny_bind (wpAny_rule (wpAny_bind (wpAny_setField ho hdt (by simp) ?_)))
  have hs := (Heap.SameBut.update s.heap I (Obj.mapFields (·.setIfInBounds 0 .none)))
  have N1 : Nx [I] [] s { s with heap := s.heap.update I (Obj.mapFields (·.setIfInBounds 0 .none)) } := Kg (tk := s.toks) fun b o n e => (hs.2 b n).trans e
  have z1 : ∃ o, (s.heap.update I (Obj.mapFields (·.setIfInBounds 0 .none))).get? I = some o := ⟨_, get?_update_self _ ho (Obj.isFreed_of_fields (Obj.data_mapFields hdt _))⟩
  refine Av (fun P' kp => ?_) <| P.nx hw N1.1 (Lz z1) rfl P.bare
  refine Ec (D := dz L Z) (by rw [show A.in1.handled = H from hA]; exact P'.held) fun h' e hk _ hcls => ?_
  have k2 : Keeps { s with heap := s.heap.update I (Obj.mapFields (·.setIfInBounds 0 .none)) } { s with heap := h' } := ⟨h', s.toks, rfl, hk⟩
  exact h e _ (P'.keeps k2) ⟨fun b o n e => hk b o (N1.1 b o n e), fun _ _ _ e => e⟩ hcls
 self := fun A i D s E R st hR => wpAny_pyIter_listiter st.1 hR
 free := fun A i D s E elts x1 pos v R st hR => by
  refine Av (fun o₀0 _ => ?_) <| st; obtain ⟨o, ho, hc, hdt⟩ := o₀0
  exact DW ho hc hdt (by decide) hR
theorem Du {o : Obj} {vs : Array Value} (P : Hp X H Z L s) (hI : ∀ b ∈ [I], b ∈ Z) (ho : s.heap.get? I = some o) (hd : o.data = .fields vs) (f : Array Value → Array Value) (tk : Nat) :
  Hp X H Z L { s with heap := s.heap.update I (Obj.mapFields f), toks := tk } ∧ Kp (dz L Z) (dz L Z) s.heap (s.heap.update I (Obj.mapFields f)) ∧ Nx [I] [] s { s with heap := s.heap.update I (Obj.mapFields f), toks := tk } ∧
   ∃ o', (s.heap.update I (Obj.mapFields f)).get? I = some o' ∧ o'.cls = o.cls ∧ o'.data = .fields (f vs) := by
 have hs := Heap.SameBut.update s.heap I (Obj.mapFields f)
 have hg := get?_update_self (Obj.mapFields f) ho (Obj.isFreed_of_fields (Obj.data_mapFields hd _))
 have N : Nx [I] [] s { s with heap := s.heap.update I (Obj.mapFields f), toks := tk } := Kg (tk := tk) fun b o n e => (hs.2 b n).trans e
 refine Av (fun P' kp => ?_) <| P.nx hI N.1 (Lz ⟨_, hg⟩) rfl P.bare
 exact ⟨P', kp, N, _, hg, Obj.cls_mapFields .., Obj.data_mapFields hd _⟩
theorem EL (N : Nx wr gn s s') (k : Keeps s' s'') : Nx wr gn s s'' := by
 refine B8 (fun h' tk e₀2 hk => ?_) <| k; obtain rfl := e₀2
 exact ⟨fun b o n e => hk b o (N.1 b o n e), N.2⟩
theorem EF (hk : ∀ b o, s.heap.get? b = some o → h'.get? b = some o) : Keeps s { s with heap := h', toks := n } := ⟨h', n, rfl, hk⟩
theorem Eh.tuple {l : Addr} : Eh X H d I [I] [] ps (fun _ => True) (fun i D s => s.heap.IsTupleIter I l i ∧ Aj D s.heap (.tup ps) (.ref l)) where
 mem := by simp
 mono := fun i D D' s s' st kp hw _ => by
  refine Av (fun o₀0 V => ?_) <| st; obtain ⟨o, ho, r⟩ := o₀0
  exact ⟨⟨o, hw I (by simp) o ho, r⟩, V.kp kp⟩
 item := fun A i q Z L s E R hA hd hp ok P hw st h => by
  refine Av (fun o₀0 V => ?_) <| id st; obtain ⟨o, ho, hc, hdt⟩ := o₀0
  refine BZ (fun a vs n ea o₀4 rl => ?_) <| FO V; obtain ⟨hl, _⟩ := o₀4
  cases ea
  refine Ar (fun x hx Vx => ?_) <| rl.get hp
  refine wpAny_callSpecial?_slot (name := ofString "__next__") st.1.typeIs F.slot_tuple_iterator_next (wpAny_call_entry F.slot_tuple_iterator_next st.1.typeIs F.entry_tuple_iterator_next ?_ (F.args_tuple_iterator_next_1 _))
  show wpAny _ _ (field (.ref I) 0 >>= _) _ _ s
  refine wpAny_bind (wpAny_field ho hdt (x := .ref l) rfl ?_)
  show wpAny _ _ (if (Value.ref l == Value.none) = true then _ else _) _ _ s
  rw [if_neg (show ¬ ((Value.ref l == Value.none) = true) from Bool.false_ne_true)]
  show wpAny _ _ (field (.ref I) 1 >>= _) _ _ s
  refine wpAny_bind (wpAny_field ho hdt (x := .int i 0) rfl ?_)
  show wpAny _ _ (seqItems? (.ref l) >>= _) _ _ s
  refine wpAny_bind (wpAny_seqItems hl rfl ?_)
  have hx' : vs.toArray[i]? = some x := by simpa using hx
  simp only [toNat_natCast, hx']
  refine wpAny_bind (wpAny_setField ho hdt (by simp) (wpAny_pure ⟨x, rfl, ?_⟩))
  obtain ⟨P', kp, N, o', ho', hc', hd'⟩ := Du P hw ho hdt (·.setIfInBounds 1 (rawInt ((i : Int) + 1))) s.toks
  exact h x _ (Vx.kp kp) P' ⟨⟨o', ho', hc'.trans hc, by rw [hd']; simp [rawInt]⟩, V.kp kp⟩ N
 done := fun A Z L s E R hA hd ok P hw st h => by
  refine Av (fun o₀0 V => ?_) <| id st; obtain ⟨o, ho, hc, hdt⟩ := o₀0
  refine BZ (fun a vs n ea o₀4 rl => ?_) <| FO V; obtain ⟨hl, _⟩ := o₀4
  cases ea
  refine wpAny_callSpecial?_slot (name := ofString "__next__") st.1.typeIs F.slot_tuple_iterator_next (wpAny_call_entry F.slot_tuple_iterator_next st.1.typeIs F.entry_tuple_iterator_next ?_ (F.args_tuple_iterator_next_1 _))
  show wpAny _ _ (field (.ref I) 0 >>= _) _ _ s
  refine wpAny_bind (wpAny_field ho hdt (x := .ref l) rfl ?_)
  show wpAny _ _ (if (Value.ref l == Value.none) = true then _ else _) _ _ s
  rw [if_neg (show ¬ ((Value.ref l == Value.none) = true) from Bool.false_ne_true)]
  show wpAny _ _ (field (.ref I) 1 >>= _) _ _ s
  refine wpAny_bind (wpAny_field ho hdt (x := .int ps.length 0) rfl ?_)
  show wpAny _ _ (seqItems? (.ref l) >>= _) _ _ s
  refine wpAny_bind (wpAny_seqItems hl rfl ?_)
  have hx' : vs.toArray[ps.length]? = none := by simp [rl.length]
  simp only [toNat_natCast, hx']
  refine wpAny_bind (wpAny_rule (wpAny_bind (wpAny_setField ho hdt (by simp) ?_)))
  refine IZ (fun P' kp N _ => ?_) <| Du P hw ho hdt (·.setIfInBounds 0 .none) s.toks
  refine Ec (D := dz L Z) (by rw [show A.in1.handled = H from hA]; exact P'.held) fun h' e hk _ hcls => ?_
  have k2 := EF (s := { s with heap := s.heap.update I (Obj.mapFields (·.setIfInBounds 0 .none)) }) (n := s.toks) hk
  exact h e _ (P'.keeps k2) (EL N k2) hcls
 self := fun A i D s E R st hR => wpAny_pyIter_tupleiter st.1 hR
 free := fun A i D s E elts x1 pos v R st hR => by
  refine Av (fun o₀0 _ => ?_) <| st; obtain ⟨o, ho, hc, hdt⟩ := o₀0
  exact DW ho hc hdt (by decide) hR
noncomputable def Bk (l : List Nat) : List PV := l.map fun c => .str [c]
theorem Dg {l : List Nat} (h : (Bk l)[i]? = some p) : ∃ c, l[i]? = some c ∧ p = .str [c] := by
 unfold Bk at h
 rw [getElem?_map] at h
 cases e : l[i]? with
 | none => rw [e] at h; cases h
 | some c => rw [e] at h; cases h; exact ⟨c, rfl, rfl⟩
theorem Eh.str_ascii {l : List Nat} : Eh X H d I [I] [] (Bk l) (fun _ => True) (fun i D s => s.heap.IsStrIter I "str_ascii_iterator" ⟨l.toArray⟩ t i) where
 mem := by simp
 mono := fun i D D' s s' st kp hw _ => by
  refine Ar (fun o ho r => ?_) <| st
  exact ⟨o, hw I (by simp) o ho, r⟩
 item := fun A i q Z L s E R hA hd hp ok P hw st h => by
  refine F9 (fun o ho hc hdt => ?_) <| id st
  refine Ar (fun c hcx e₀2 => ?_) <| Dg hp; obtain rfl := e₀2
  refine wpAny_callSpecial?_slot (name := ofString "__next__") st.typeIs F.slot_str_ascii_iterator_next (wpAny_call_entry F.slot_str_ascii_iterator_next st.typeIs F.entry_str_ascii_iterator_next ?_ (F.args_str_ascii_iterator_next_1 _))
  show wpAny _ _ (field (.ref I) 0 >>= _) _ _ s
  refine wpAny_bind (wpAny_field ho hdt (x := .str ⟨l.toArray⟩ t) rfl ?_)
  show wpAny _ _ (field (.ref I) 1 >>= _) _ _ s
  refine wpAny_bind (wpAny_field ho hdt (x := .int i 0) rfl ?_)
  have hx : (⟨l.toArray⟩ : Str).cps[i]? = some c := by simpa using hcx
  simp only [toNat_natCast, hx]
  obtain ⟨P', kp, N, o', ho', hc', hd'⟩ := Du P hw ho hdt (·.setIfInBounds 1 (rawInt ((i : Int) + 1))) (s.toks + 1)
  refine wpAny_bind (wpAny_setField ho hdt (by simp) (wpAny_bind (wpAny_mkStr (wpAny_pure ⟨_, rfl, h _ _ ?_ P' ⟨o', ho', hc'.trans hc, by rw [hd']; simp [rawInt]⟩ N⟩) (by show 1 ≤ sizeLine; decide))))
  exact DO ⟨#[c]⟩ _ (by show 1 ≤ sizeLine; decide)
 done := fun A Z L s E R hA hd ok P hw st h => by
  refine F9 (fun o ho hc hdt => ?_) <| id st
  refine wpAny_callSpecial?_slot (name := ofString "__next__") st.typeIs F.slot_str_ascii_iterator_next (wpAny_call_entry F.slot_str_ascii_iterator_next st.typeIs F.entry_str_ascii_iterator_next ?_ (F.args_str_ascii_iterator_next_1 _))
  show wpAny _ _ (field (.ref I) 0 >>= _) _ _ s
  refine wpAny_bind (wpAny_field ho hdt (x := .str ⟨l.toArray⟩ t) rfl ?_)
  show wpAny _ _ (field (.ref I) 1 >>= _) _ _ s
  refine wpAny_bind (wpAny_field ho hdt (x := .int (Bk l).length 0) rfl ?_)
  have hx : (⟨l.toArray⟩ : Str).cps[(Bk l).length]? = none := by simp [Bk]
  simp only [toNat_natCast, hx]
  refine wpAny_bind (wpAny_rule (wpAny_bind (wpAny_setField ho hdt (by simp) (wpAny_bind (wpAny_letGo ?_)))))
  refine IZ (fun P' kp N _ => ?_) <| Du P hw ho hdt (·.setIfInBounds 0 .none) s.toks
  refine Ec (D := dz L Z) (by rw [show A.in1.handled = H from hA]; exact P'.held) fun h' e hk _ hcls => ?_
  have k2 := EF (s := { s with heap := s.heap.update I (Obj.mapFields (·.setIfInBounds 0 .none)) }) (n := s.toks) hk
  exact h e _ (P'.keeps k2) (EL N k2) hcls
 self := fun A i D s E R st hR => wpAny_pyIter_striter_ascii st hR
 free := fun A i D s E elts x1 pos v R st hR => by
  refine F9 (fun o ho hc hdt => ?_) <| st
  exact DW ho hc hdt (by decide) hR
theorem Eh.str_wide {l : List Nat} : Eh X H d I [I] [] (Bk l) (fun _ => True) (fun i D s => s.heap.IsStrIter I "str_iterator" ⟨l.toArray⟩ t i) where
 mem := by simp
 mono := fun i D D' s s' st kp hw _ => by
  refine Ar (fun o ho r => ?_) <| st
  exact ⟨o, hw I (by simp) o ho, r⟩
 item := fun A i q Z L s E R hA hd hp ok P hw st h => by
  refine F9 (fun o ho hc hdt => ?_) <| id st
  refine Ar (fun c hcx e₀2 => ?_) <| Dg hp; obtain rfl := e₀2
  refine wpAny_callSpecial?_slot (name := ofString "__next__") st.typeIs F.slot_str_iterator_next (wpAny_call_entry F.slot_str_iterator_next st.typeIs F.entry_str_iterator_next ?_ (F.args_str_iterator_next_1 _))
  show wpAny _ _ (field (.ref I) 0 >>= _) _ _ s
  refine wpAny_bind (wpAny_field ho hdt (x := .str ⟨l.toArray⟩ t) rfl ?_)
  show wpAny _ _ (field (.ref I) 1 >>= _) _ _ s
  refine wpAny_bind (wpAny_field ho hdt (x := .int i 0) rfl ?_)
  have hx : (⟨l.toArray⟩ : Str).cps[i]? = some c := by simpa using hcx
  simp only [toNat_natCast, hx]
  obtain ⟨P', kp, N, o', ho', hc', hd'⟩ := Du P hw ho hdt (·.setIfInBounds 1 (rawInt ((i : Int) + 1))) (s.toks + 1)
  refine wpAny_bind (wpAny_setField ho hdt (by simp) (wpAny_bind (wpAny_mkStr (wpAny_pure ⟨_, rfl, h _ _ ?_ P' ⟨o', ho', hc'.trans hc, by rw [hd']; simp [rawInt]⟩ N⟩) (by show 1 ≤ sizeLine; decide))))
  exact DO ⟨#[c]⟩ _ (by show 1 ≤ sizeLine; decide)
 done := fun A Z L s E R hA hd ok P hw st h => by
  refine F9 (fun o ho hc hdt => ?_) <| id st
  refine wpAny_callSpecial?_slot (name := ofString "__next__") st.typeIs F.slot_str_iterator_next (wpAny_call_entry F.slot_str_iterator_next st.typeIs F.entry_str_iterator_next ?_ (F.args_str_iterator_next_1 _))
  show wpAny _ _ (field (.ref I) 0 >>= _) _ _ s
  refine wpAny_bind (wpAny_field ho hdt (x := .str ⟨l.toArray⟩ t) rfl ?_)
  show wpAny _ _ (field (.ref I) 1 >>= _) _ _ s
  refine wpAny_bind (wpAny_field ho hdt (x := .int (Bk l).length 0) rfl ?_)
  have hx : (⟨l.toArray⟩ : Str).cps[(Bk l).length]? = none := by simp [Bk]
  simp only [toNat_natCast, hx]
  refine wpAny_bind (wpAny_rule (wpAny_bind (wpAny_setField ho hdt (by simp) (wpAny_bind (wpAny_letGo ?_)))))
  refine IZ (fun P' kp N _ => ?_) <| Du P hw ho hdt (·.setIfInBounds 0 .none) s.toks
  refine Ec (D := dz L Z) (by rw [show A.in1.handled = H from hA]; exact P'.held) fun h' e hk _ hcls => ?_
  have k2 := EF (s := { s with heap := s.heap.update I (Obj.mapFields (·.setIfInBounds 0 .none)) }) (n := s.toks) hk
  exact h e _ (P'.keeps k2) (EL N k2) hcls
 self := fun A i D s E R st hR => wpAny_pyIter_striter_wide st hR
 free := fun A i D s E elts x1 pos v R st hR => by
  refine F9 (fun o ho hc hdt => ?_) <| st
  exact DW ho hc hdt (by decide) hR
noncomputable def rng (a c : Int) (n : Nat) : List PV := (List.range n).map fun (k : Nat) => PV.int (a + (k : Int) * c)
theorem D4 {a c : Int} : (rng a c n).length = n := by simp [rng]
theorem D3 {a c : Int} (h : (rng a c n)[i]? = some p) : i < n ∧ p = .int (a + i * c) := by
 have hi : i < n := by
  rcases lt_or_ge i n with q | q
  ·exact q
  ·rw [getElem?_eq_none (by rw [D4]; exact q)] at h; cases h
 refine ⟨hi, ?_⟩
 unfold rng at h
 rw [getElem?_map, List.getElem?_range hi] at h
 cases h; rfl
theorem Eh.range {a c : Int} : Eh X H d I [I] [] (rng a c n) (fun _ => True) (fun i D s => IsRangeIter s.heap I (a + i * c) ((n : Int) - (i : Int)) c) where
 mem := by simp
 mono := fun i D D' s s' st kp hw _ => hw I (by simp) _ st
 item := fun A i q Z L s E R hA hd hp ok P hw st h => by
  refine Av (fun hi e₀1 => ?_) <| D3 hp; obtain rfl := e₀1
  have hT : s.TypeIs (.ref I) "range_iterator" := ⟨_, st, rfl⟩
  have hpos : ¬ ((n : Int) - (i : Int) ≤ 0) := by exact Aa 0x881a4611992808421 rt hi
  refine wpAny_callSpecial?_slot (name := ofString "__next__") hT F.slot_range_iterator_next
   (call_meets F.slot_range_iterator_next hT F.entry_range_iterator_next (F.args_range_iterator_next_1 _) (AutoRange.range_iterator___next___range_iterator_1 I (a + i * c) ((n : Int) - i) c hpos) ⟨st, ?_⟩)
  have hit : IsRangeIter ((s.heap.update I (Obj.mapFields fun x_1 => x_1.setIfInBounds 0 (rawInt (a + i * c + c)))).update I (Obj.mapFields fun x => x.setIfInBounds 1 (rawInt ((n : Int) - i - 1)))) I (a + ((i + 1 : Nat) : Int) * c) ((n : Int) - ((i + 1 : Nat) : Int)) c := by
   have e1 : a + ((i + 1 : Nat) : Int) * c = a + (i : Int) * c + c := by push_cast; rw [Int.add_mul, one_mul, add_assoc]
   have e2 : (n : Int) - ((i + 1 : Nat) : Int) = (n : Int) - (i : Int) - 1 := by push_cast; exact GH 0x4891a061084891810309420 rt
   rw [e1, e2]
   exact get?_update_self _ (get?_update_self _ st rfl) rfl
  have hs := (Heap.SameBut.update s.heap I (Obj.mapFields fun x_1 => x_1.setIfInBounds 0 (rawInt (a + i * c + c)))).trans (Heap.SameBut.update _ I (Obj.mapFields fun x => x.setIfInBounds 1 (rawInt ((n : Int) - i - 1))))
  have N : Nx [I] [] s _ := Kg (tk := s.toks + 1) fun b o n e => (hs.2 b n).trans e
  refine Av (fun P' kp => ?_) <| P.nx hw N.1 (Lz ⟨_, hit⟩) rfl P.bare
  exact h _ _ (AT _ _) P' hit N
 done := fun A Z L s E R hA hd ok P hw st h => by
  rw [D4] at st
  have hT : s.TypeIs (.ref I) "range_iterator" := ⟨_, st, rfl⟩
  refine wpAny_callSpecial?_slot (name := ofString "__next__") hT F.slot_range_iterator_next (wpAny_call_entry F.slot_range_iterator_next hT F.entry_range_iterator_next ?_ (F.args_range_iterator_next_1 _))
  show wpAny _ _ (field (.ref I) 0 >>= _) _ _ s
  refine wpAny_bind (wpAny_field st rfl (x := rawInt (a + n * c)) rfl ?_)
  show wpAny _ _ (field (.ref I) 1 >>= _) _ _ s
  refine wpAny_bind (wpAny_field st rfl (x := rawInt ((n : Int) - n)) rfl ?_)
  show wpAny _ _ (field (.ref I) 2 >>= _) _ _ s
  refine wpAny_bind (wpAny_field st rfl (x := rawInt c) rfl ?_)
  show wpAny _ _ (if ((n : Int) - n) ≤ 0 then _ else _) _ _ s
  rw [if_pos (by exact Aq 4676417260576 rt)]
  refine wpAny_bind (wpAny_rule ?_)
  refine wpAny_bind ?_
  refine Ec (D := dz L Z) (by rw [show A.in1.handled = H from hA]; exact P.held) fun h' e hk _ hcls => ?_
  have k2 := EF (s := s) (n := s.toks) hk
  exact h e _ (P.keeps k2) (EL ⟨fun _ _ _ e => e, fun _ _ _ e => e⟩ k2) hcls
 self := fun A i D s E R st hR => wpAny_pyIter_rangeiter st hR
 free := fun A i D s E elts x1 pos v R st hR => DW st rfl rfl (by decide) hR
theorem Ka (k : BF L L' s s') (hz : ∀ a ∈ wr, s.heap.get? a = none) : Kp (dz L Z) (dz L' (wr ++ Z)) s.heap s'.heap := fun a o e n => by
 have := k.heap a o e fun hm => n (mem_append_left _ hm)
 refine ⟨this.1, fun hm => (List.mem_append.mp hm).elim this.2 fun hm => (List.mem_append.mp hm).elim (fun q => ?_) fun q => n (mem_append_right _ q)⟩
 rw [hz a q] at e; cases e
theorem Fm.grow (F : Fm X H Z env nm m L s) (k : BF L L' s s') (hz : ∀ a ∈ wr, s.heap.get? a = none) (P : Hp X H (wr ++ Z) L' s') : Fm X H (wr ++ Z) env nm m L' s' := by
 have zk : ∀ a ∈ Z, ∀ o, s.heap.get? a = some o → s'.heap.get? a = some o := fun a ha o e => (k.heap a o e fun hm => F.hp.apart a hm ha).1
 refine ⟨P, F.ok, fun x kd p hm => ?_, ?_, mem_append_right _ F.lz, fun x c e => ?_⟩
 ·exact (F.vals x kd p hm).kp (Ka k hz) (fun o e => zk _ F.lz o e) fun c o e ho => zk _ (F.cz x c e).1 o ho
 ·refine DD (fun mv o es ep ho r => ?_) <| F.nsx
  exact ⟨mv, o, es, ep, zk _ F.lz o ho, r⟩
 ·obtain ⟨hz, hne, v, o, ho, hd⟩ := F.cz x c e
  exact ⟨mem_append_right _ hz, hne, v, o, zk _ hz o ho, hd⟩
theorem B9.nx (x : B9 env nm L L1 s s1) (N : Nx wr gn s1 s2) (hz : ∀ a ∈ wr, s.heap.get? a = none) (hg : ∀ g ∈ gn, s.gens[g]? = none) (hl : ∀ a ∈ wr, ∃ o, s2.heap.get? a = some o) : B9 env nm L L1 s s2 := by
 have hw : ∀ a o, s.heap.get? a = some o → a ∉ wr := fun a o e q => by rw [hz a q] at e; cases e
 refine ⟨fun a o e n nl nc => ?_, fun g z e => ?_, fun a o e => ?_⟩
 ·have := x.heap a o e n nl nc
  exact ⟨N.1 a o (hw a o e) this.1, this.2⟩
 ·exact N.2 g z (fun q => by rw [hg g q] at e; cases e) (x.gens g z e)
 ·refine Ao (fun o' e' => ?_) <| x.live a o e
  exact ⟨o', N.1 a o' (hw a o e) e'⟩
theorem Hp.sub (P : Hp X H Zc L s) (h : ∀ a ∈ Z, a ∈ Zc) : Hp X H Z L s := by
 have sub : ∀ a, a ∈ dz L Z → a ∈ dz L Zc := fun a hm => (List.mem_append.mp hm).elim (mem_append_left _) fun q => mem_append_right _ (h a q)
 exact ⟨P.keep, P.os, P.bare, fun x hx => BP.kp (AP sub) (fun _ e => e) (P.led x hx), P.nodup, fun a ha => P.fresh a (sub a ha), fun a ha hz => P.apart a ha (h a hz), fun a ha => P.zone a (h a ha), P.held.kp (AP sub)⟩
theorem Gl (h : ∀ a ∈ Z, a ∈ Zc) : ∀ a, a ∈ dz L Z → a ∈ dz L Zc := fun a hm => (List.mem_append.mp hm).elim (mem_append_left _) fun q => mem_append_right _ (h a q)
theorem Fm.sub (F₀ : Fm X H Z env nm m₀ L₀ s₀) (F : Fm X H Zc env nm m L s) (h : ∀ a ∈ Z, a ∈ Zc) : Fm X H Z env nm m L s := by
 refine ⟨F.hp.sub h, F.ok, fun x kd p hm => (F.vals x kd p hm).kp (AP (Gl h)) (fun _ e => e) fun _ _ _ e => e, F.nsx, F₀.lz, fun x c e => ?_⟩
 refine CP (fun _ hne r => ?_) <| F.cz x c e
 exact ⟨(F₀.cz x c e).1, hne, r⟩
theorem Fm.nxg (F : Fm X H Z env nm m L s) (N : Nx pv gn s s') (hw : ∀ b ∈ pv, b ∈ Z) (hn : ∀ b ∈ Zn, s.heap.get? b = none) (P : Hp X H (Zn ++ Z) L s') (hl : env.locals ∉ pv)
  (hc : ∀ x c, env.cells.lookup x = some c → c ∉ pv) : Fm X H (Zn ++ Z) env nm m L s' ∧ Kp (dz L Z) (dz L (Zn ++ Z)) s.heap s'.heap := by
 have kp : Kp (dz L Z) (dz L (Zn ++ Z)) s.heap s'.heap := fun a o e n => by
  refine ⟨N.1 a o (fun q => n (mem_append_right _ (hw a q))) e, fun hm => ?_⟩
  rcases List.mem_append.mp hm with q | q
  ·exact n (mem_append_left _ q)
  ·rcases List.mem_append.mp q with q | q
   ·rw [hn a q] at e; cases e
   ·exact n (mem_append_right _ q)
 refine ⟨⟨P, F.ok, fun x kd p hm => ?_, ?_, mem_append_right _ F.lz, fun x c e => ?_⟩, kp⟩
 ·exact (F.vals x kd p hm).kp kp (fun o e => N.1 _ o hl e) fun c o e ho => N.1 _ o (hc x c e) ho
 ·refine DD (fun mv o es ep ho r => ?_) <| F.nsx
  exact ⟨mv, o, es, ep, N.1 _ o hl ho, r⟩
 ·obtain ⟨hz, hne, v, o, ho, hd⟩ := F.cz x c e
  exact ⟨mem_append_right _ hz, hne, v, o, N.1 _ o (hc x c e) ho, hd⟩
def Em (X : Cx) (H : Option Value) (d : Nat × Nat) (tg : PySem.Expr → Prop) (Z : List Addr) (L : Ai) (s : Shared) (Q : List PV → (Ai → Prop) → Ai → Prop) (v : Value) (s' : Shared) : Prop :=
 ∃ ps Ok L', Q ps Ok L' ∧ ∀ A E (R : QV), A.handled = H → Dy A d →
  (∀ I wr gn St s2, DB X H d tg I gn ps Ok St → St 0 wr (dz L' (wr ++ Z)) s2 → Hp X H (wr ++ Z) L' s2 → BF L L' s s2 → (∀ a ∈ wr, s.heap.get? a = none) → (∀ (g : Nat), g ∈ gn → s.gens[g]? = none) → R (.ref I) s2) →
  wpAny X.M A (pyIter v) R E s'
theorem Em.after {Q : List PV → (Ai → Prop) → Ai → Prop} (k : BF L L1 s s1) (x : Em X H d tg Z L1 s1 Q v s') : Em X H d tg Z L s Q v s' := by
 refine CQ (fun ps Ok L' q h => ?_) <| x
 refine ⟨ps, Ok, L', q, fun A E R hA hd h' => h A E R hA hd fun I wr gn St s2 T st P e hz hg => h' I wr gn St s2 T st P (k.trans e) (fun a ha => ?_) fun g hgm => ?_⟩
 ·cases e1 : s.heap.get? a with
  | none => rfl
  | some o => refine Ao (fun o' e2 => ?_) <| k.live a o e1; rw [hz a ha] at e2; cases e2
 ·cases e1 : s.gens[g]? with
  | none => rfl
  | some o => have e2 := k.gens g o e1; rw [hg g hgm] at e2; cases e2
inductive Lq (X9 : Cx) (H9 : Option Value) (Z9 : List Addr) (env9 : Env) (nm9 : Nm) (L9 : Ai) (s9 : Shared) (Q9 : QS) (u9 : Unit) (s'9 : Shared) : Prop
 | mk (m' : AU) (L' : Ai) (q : Q9 m' L') (F : Fm X9 H9 Z9 env9 nm9 m' L' s'9) (e : B9 env9 nm9 L9 L' s9 s'9)
theorem wa {Q : QS} {M : Model} {t : Sem Unit} {R : Unit → Shared → Prop} (h : wpAny M A t (Lq X H Z env nm L s0 Q) E s) (k : ∀ u s' m' L', Q m' L' → Fm X H Z env nm m' L' s' → B9 env nm L L' s0 s' → R u s') : wpAny M A t R E s :=
 Ap h fun u s' x => by cases x with | mk m' L' q F e => exact k u s' m' L' q F e
inductive Lp (X9 : Cx) (H9 : Option Value) (Zc9 : List Addr) (L'9 : Ai) (St9 : List Addr → List Addr → Shared → Prop) (pv9 : List Addr) (gn9 : List Nat) (s3 : Shared) (p9 : PV) (v9 : Value) (s4 : Shared) : Prop
 | mk (Zn pv' : List Addr) (V : Aj (dz L'9 (Zn ++ Zc9)) s4.heap p9 v9) (P : Hp X9 H9 (Zn ++ Zc9) L'9 s4) (st : St9 pv' (dz L'9 (Zn ++ Zc9)) s4) (hpv : ∀ b ∈ pv', b ∈ pv9 ∨ b ∈ Zn) (hZn : ∀ b ∈ Zn, s3.heap.get? b = none) (N : Nx pv9 gn9 s3 s4)
theorem Of {St : List Addr → List Addr → Shared → Prop} {s3 : Shared} {M : Model} {t : Sem Unit} {R : Unit → Shared → Prop} (h : wpAny M A t (fun _ s4 => Lp X H Zc L' St pv gn s3 p v s4) E s)
  (k : ∀ u s4 Zn pv', Aj (dz L' (Zn ++ Zc)) s4.heap p v → Hp X H (Zn ++ Zc) L' s4 → St pv' (dz L' (Zn ++ Zc)) s4 → (∀ b ∈ pv', b ∈ pv ∨ b ∈ Zn) → (∀ b ∈ Zn, s3.heap.get? b = none) → Nx pv gn s3 s4 → R u s4) : wpAny M A t R E s :=
 Ap h fun u s4 x => by cases x with | mk Zn pv' V P st a b N => exact k u s4 Zn pv' V P st a b N
inductive OW (X9 : Cx) (H9 : Option Value) (env9 : Env) (nm9 : Nm) (Z9 : List Addr) (L9 : Ai) (s9 : Shared) (n9 : Nat) (J : Nat → QS) (St9 : Nat → List Addr → List Addr → Shared → Prop) (k9 : Nat) (s'9 : Shared) : Prop
 | mk (i : Nat) (m' : AU) (L' : Ai) (Zc pv : List Addr) (hJ : J i m' L') (F : Fm X9 H9 Zc env9 nm9 m' L' s'9) (st : St9 i pv (dz L' Zc) s'9) (h1 : ∀ b ∈ pv, b ∈ Zc) (h2 : ∀ b ∈ pv, s9.heap.get? b = none) (h3 : ∀ b ∈ Z9, b ∈ Zc) (hle : i ≤ n9) (hk : k9 = n9 + 1 - i) (e : B9 env9 nm9 L9 L' s9 s'9)
section
variable (X : Cx) (A : Around) (env : Env) (nm : Nm)
def WI (m : AU) (t : Sem Value) (L : Ai) (tg : PySem.Expr → Prop) (Q : List PV → (Ai → Prop) → Ai → Prop) : Prop :=
 ∀ Z s E, Fm X A.handled Z env nm m L s → wpAny X.M A t (Em X A.handled (dd A) tg Z L s Q) E s
def WAs (m : AU) (t : Value → Sem Unit) (p : PV) (L : Ai) (Q : QS) : Prop :=
 ∀ Z s E v, Fm X A.handled Z env nm m L s → Aj (dz L Z) s.heap p v → wpAny X.M A (t v) (Lq X A.handled Z env nm L s Q) E s
end
theorem NO {Q : QS} (h : KSt nm m x Q p L) : WAs X A env nm m (assign (.Name x pos) env) p L Q := fun Z s E v F V => by
 refine Bv (fun k m' S hk q => ?_) <| h
 exact wpAny_assign_Name (F.store S hk V fun s' F' e' => ⟨m', L, q, F', e'⟩)
inductive Ii : PV → List PV → (Ai → Prop) → Prop
 | list {p ps : _} : Ii p ps fun L => LV L p ps
 | tup {ps : _} : Ii (.tup ps) ps fun _ => True
 | str {l : _} : Ii (.str l) (Bk l) fun _ => True
theorem Mp {Ok : Ai → Prop} {Q : List PV → (Ai → Prop) → Ai → Prop} (i : Ii p ps Ok) (ok : Ok L) (P : Hp X A.handled Z L s) (V : Aj (dz L Z) s.heap p v)
  (e₀ : BF L₀ L s₀ s) (h : Q ps Ok L) : Em X A.handled (dd A) Ay Z L₀ s₀ Q v s := by
 refine Em.after e₀ ⟨ps, Ok, L, h, fun A' E R hA hd h' => ?_⟩
 have fresh : ∀ a ∈ [s.heap.objs.size], s.heap.get? a = none := fun a ha => by
  simp at ha; subst ha
  cases e : s.heap.get? s.heap.objs.size with
  | none => rfl
  | some o => exact absurd (lt_size e) (lt_irrefl _)
 have fin : ∀ (o : Obj) (St : Nat → List Addr → Shared → Prop) (hf : o.isFreed = false), Eh X A.handled (dd A) s.heap.objs.size [s.heap.objs.size] [] ps Ok St →
   (∀ D, Aj D (s.heap.push o) p v → St 0 D { s with heap := s.heap.push o }) → R (.ref s.heap.objs.size) { s with heap := s.heap.push o } := fun o St hf S st => by
  have k := A9 s o s.toks
  obtain ⟨P', kp⟩ := P.grow (Z' := [s.heap.objs.size]) k fun a ha => by
   simp at ha; subst ha
   exact ⟨le_refl _, o, get?_push_size _ hf⟩
  exact h' _ [s.heap.objs.size] [] _ _ S.turn.dyn ⟨rfl, st _ (V.kp kp)⟩ P' (.keeps k) fresh (fun g hg => by cases hg)
 cases i with
 | list =>
  revert fin; apply LV.el ok P V; intro a vs n ho r fin
  exact wpAny_pyIter_list (Ah ho) (fin _ _ rfl Eh.list fun D V' => ⟨⟨_, get?_push_size _ rfl, rfl, rfl⟩, V'⟩)
 | tup =>
  revert fin; apply Dd V; intro a vs n ho _ r fin
  exact wpAny_pyIter_tuple ⟨_, ho, rfl, n, rfl⟩ (fin _ _ rfl Eh.tuple fun D V' => ⟨⟨_, get?_push_size _ rfl, rfl, rfl⟩, V'⟩)
 | @str l =>
  revert fin; apply Bn V; intro _ t fin
  cases ha : (⟨l.toArray⟩ : Str).cps.all (· < 128)
  ·exact wpAny_pyIter_wide ha (fin _ _ rfl (Eh.str_wide (t := t)) fun D V' => ⟨_, get?_push_size _ rfl, rfl, rfl⟩)
  ·exact wpAny_pyIter_ascii ha (fin _ _ rfl (Eh.str_ascii (t := t)) fun D V' => ⟨_, get?_push_size _ rfl, rfl, rfl⟩)
abbrev KIt (Q : List PV → (Ai → Prop) → Ai → Prop) : QE := fun p L => ∃ ps Ok, Ii p ps Ok ∧ Ok L ∧ Q ps Ok L
theorem AZ {Q : List PV → (Ai → Prop) → Ai → Prop} (h : WE X A env nm m (eval e env) L (KIt Q)) : WI X A env nm m (eval e env) L Ay Q := fun Z s E F =>
 by
 refine wv (h Z s E F) fun v s1 p L1 q P1 V1 e1 => ?_
 refine Bv (fun ps Ok i ok q => ?_) q
 exact Mp i ok P1 V1 e1 q
abbrev KFo (X : Cx) (A : Around) (env : Env) (nm : Nm) (m : AU) (target : PySem.Expr) (body orelse : List Stmt) (Qn : QS) (Qr : QE) (Qb Qc : QS) : List PV → (Ai → Prop) → Ai → Prop := fun ps Ok L1 => ∃ J : Nat → QS, J 0 m L1 ∧
   (∀ i p m' L', ps[i]? = some p → J i m' L' → Ok L' ∧ WAs X A env nm m' (assign target env) p L' (KSq X A env nm (J (i + 1)) Qr Qn (J (i + 1)) body)) ∧
   (∀ m' L', J ps.length m' L' → Ok L' ∧ WS X A env nm m' (execs orelse env) L' Qn Qr Qb Qc)
theorem JU (mf : Nat → ι → AU) (Lf : Nat → Ai) {Ok : Ai → Prop} (hm : m = mf 0 x₀) (hL : L = Lf 0)
  (step : ∀ (J : QS) i p x, ps[i]? = some p → (∀ x2 L', L' = Lf (i + 1) → J (mf (i + 1) x2) L') → Ok (Lf i) ∧ WAs X A env nm (mf i x) (assign target env) p (Lf i) (KSq X A env nm J Qr Qn J body))
  (last : ∀ x, Ok (Lf ps.length) ∧ WS X A env nm (mf ps.length x) (execs orelse env) (Lf ps.length) Qn Qr Qb Qc) : KFo X A env nm m target body orelse Qn Qr Qb Qc ps Ok L := by
 refine ⟨fun i m L => ∃ x, m = mf i x ∧ L = Lf i, ⟨x₀, hm, hL⟩, fun i p m' L' hp hJ => ?_, fun m' L' hJ => ?_⟩
 ·refine Ar (fun x e1 e2 => ?_) hJ
  subst e1 e2
  exact step _ i p x hp fun x2 L' b => ⟨x2, rfl, b⟩
 ·refine Ar (fun x e1 e2 => ?_) hJ
  subst e1 e2
  exact last x
theorem Nn (mf : Nat → ι → κ → AU) (Lf : Nat → Ai) {Ok : Ai → Prop} (hm : m = mf 0 x₀ y₀) (hL : L = Lf 0)
  (step : ∀ (J : QS) i p x y, ps[i]? = some p → (∀ x2 y2 L', L' = Lf (i + 1) → J (mf (i + 1) x2 y2) L') → Ok (Lf i) ∧ WAs X A env nm (mf i x y) (assign target env) p (Lf i) (KSq X A env nm J Qr Qn J body))
  (last : ∀ x y, Ok (Lf ps.length) ∧ WS X A env nm (mf ps.length x y) (execs orelse env) (Lf ps.length) Qn Qr Qb Qc) : KFo X A env nm m target body orelse Qn Qr Qb Qc ps Ok L := by
 refine ⟨fun i m L => ∃ x y, m = mf i x y ∧ L = Lf i, ⟨x₀, y₀, hm, hL⟩, fun i p m' L' hp hJ => ?_, fun m' L' hJ => ?_⟩
 ·refine B8 (fun x y e1 e2 => ?_) hJ
  subst e1 e2
  exact step _ i p x y hp fun x2 y2 L' b => ⟨x2, y2, rfl, b⟩
 ·refine B8 (fun x y e1 e2 => ?_) hJ
  subst e1 e2
  exact last x y
theorem BM (ht : tg target)
  (h : WI X A env nm m (eval iter env) L tg (KFo X A env nm m target body orelse Qn Qr Qb Qc))
  (hs : ∀ x, foldedSetIterable iter env x = pure x) : WS X A env nm m (exec (.For target iter body orelse pos) env) L Qn Qr Qb Qc := fun Z s E F => by
 refine wpAny_For (Ap (h Z s E F) fun v s1 h1 => ?_) hs
 refine CQ (fun ps Ok L1 o₀3 hi => ?_) <| h1; obtain ⟨J, hJ0, hstep, hend⟩ := o₀3
 refine hi A E _ rfl (AR _) fun I wr gn St s2 T st P2 e2 hz hg => ?_
 have hlw : ∀ pv : List Addr, (∀ b ∈ pv, s.heap.get? b = none) → env.locals ∉ pv := fun pv hz q => by refine DD (fun mv o _ _ e _ => ?_) <| F.nsx; rw [hz _ q] at e; cases e
 have hcw : ∀ pv : List Addr, (∀ b ∈ pv, s.heap.get? b = none) → ∀ x c, env.cells.lookup x = some c → c ∉ pv := fun pv hz x c e q => by obtain ⟨_, _, v, o, e', _⟩ := F.cz x c e; rw [hz _ q] at e'; cases e'
 refine codeAny_forLoop_any (OW X A.handled env nm Z L s ps.length J St) ?_ (ps.length + 1)
  ⟨0, m, L1, wr ++ Z, wr, hJ0, F.grow e2 hz P2, st, fun b hb => mem_append_left _ hb, hz, fun b hb => mem_append_right _ hb, zero_le _, rfl, e2.toS⟩
 rintro k s3 ⟨i, m', L', Zc, pv, hJ, F3, st3, hpz, hpf, hZc, hle, rfl, e3⟩
 by_cases hlt : i < ps.length
 ·refine Av (fun ok ha => ?_) <| hstep i ps[i] m' L' (getElem?_eq_getElem hlt) hJ
  refine Ap (T.item A i ps[i] pv Zc L' s3 _ (notedBy X.M A env fun e s' => cameBackBy X.M A env E e s') target (Lp X A.handled Zc L' (St (i + 1)) pv gn s3 ps[i])
   rfl (AR _) ht (getElem?_eq_getElem hlt) ok F3.hp hpz st3 fun v s4 Zn pv' a b c d e f => ⟨Zn, pv', a, b, c, d, e, f⟩) fun r s4 h4 => ?_
  obtain ⟨v, rfl, h4⟩ := h4
  refine Of h4 fun _ s5 Zn pv' V5 P5 st5 hpv hZn N5 => ?_
  refine Av (fun F5 _ => ?_) <| F3.nxg N5 hpz hZn P5 (hlw pv hpf) (hcw pv hpf)
  have e5 := e3.nx N5 hpf hg fun a ha => P5.zone a (mem_append_right _ (hpz a ha))
  have hpf' : ∀ b ∈ pv', s.heap.get? b = none := fun b hb => by
   rcases hpv b hb with q | q
   ·exact hpf b q
   ·cases e : s.heap.get? b with
    | none => rfl
    | some o => refine Ao (fun o' e' => ?_) <| e3.live b o e; rw [hZn b q] at e'; cases e'
  have hpz' : ∀ b ∈ pv', b ∈ Zn ++ Zc := fun b hb => (hpv b hb).elim (fun q => mem_append_right _ (hpz b q)) (mem_append_left _)
  have hZc' : ∀ b ∈ Z, b ∈ Zn ++ Zc := fun b hb => mem_append_right _ (hZc b hb)
  refine wa (ha (Zn ++ Zc) s5 _ v F5 V5) fun _ s6 m6 L6 hb F6 e6 => ?_
  refine Ap (hb (Zn ++ Zc) s6 _ F6) fun f s7 h7 => ?_
  obtain ⟨pf, m7, L7, q, F7, r, e7⟩ := h7
  have e67 := e6.trans e7
  have e57 := e5.trans e67
  have st7 : St (i + 1) pv' (dz L7 (Zn ++ Zc)) s7 := by
   refine T.mono (i + 1) pv' _ _ s5 s7 st5 (e67.kp F5) (fun b hb o e => ?_) e67.gens
   exact (e67.heap b o e (fun q => F5.hp.apart b q (hpz' b hb)) (fun q => hlw pv' hpf' (q ▸ hb)) fun x _ q => hcw pv' hpf' x b q hb).1
  have nxt : J (i + 1) m7 L7 → ∃ k', k' < ps.length + 1 - i ∧ OW X A.handled env nm Z L s ps.length J St k' s7 := fun q =>
   ⟨ps.length + 1 - (i + 1), by exact B7 0x1680848a0256014024500244810010422 rt (sub_add_cancel (Aa 0x489004880012800421 rt hle)) (sub_add_cancel (Aa 0x91204012800421 rt hle)), i + 1, m7, L7, Zn ++ Zc, pv', q, F7, st7, hpz', hpf', hZc', hlt, rfl, e57⟩
  cases pf with
  | next => rw [r]; exact nxt q
  | cont => rw [r]; exact nxt q
  | brk => rw [r]; exact ⟨.next, m7, L7, q, F.sub F7 hZc', rfl, e57⟩
  | ret p => refine Ar (fun u e₀1 V => ?_) <| r; obtain rfl := e₀1; exact ⟨.ret p, m7, L7, q, F.sub F7 hZc', ⟨u, rfl, V.kp (AP (Gl hZc'))⟩, e57⟩
 ·have : i = ps.length := by exact le_antisymm (Aa 0x94012800421 rt hle) (Aa 291380514718753 rt hlt)
  subst this
  refine Av (fun ok ho => ?_) <| hend m' L' hJ
  refine T.done A pv Zc L' s3 _ _ rfl (AR _) ok F3.hp hpz st3 fun s4 P4 N4 => ?_
  refine Av (fun F4 _ => ?_) <| F3.nxg (Zn := []) N4 hpz (fun b hb => by cases hb) P4 (hlw pv hpf) (hcw pv hpf)
  have e4 := e3.nx N4 hpf hg fun a ha => P4.zone a (hpz a ha)
  refine Ap (ho Zc s4 _ F4) fun f s5 h5 => ?_
  obtain ⟨pf, m5, L5, q, F5, r, e5⟩ := h5
  exact ⟨pf, m5, L5, q, F.sub F5 hZc, (by
   cases pf with
   | next => exact r
   | brk => exact r
   | cont => exact r
   | ret p => refine Ar (fun u e₀1 V => ?_) <| r; obtain rfl := e₀1; exact ⟨u, rfl, V.kp (AP (Gl hZc))⟩), e4.trans e5⟩
theorem Ac (h : Heap) (ha : h.objs.size ≤ a) : h.get? a = none := by
 cases e : h.get? a with
 | none => rfl
 | some o => exact absurd (lt_size e) (Nat.not_lt.mpr ha)
noncomputable def BT (ps : List PV) : List PV := ps.zipIdx.map fun x => .tup [.int x.2, x.1]
theorem Cd : (BT ps).length = ps.length := by simp [BT]
theorem Bl (h : (BT ps)[i]? = some p) : ∃ q, ps[i]? = some q ∧ p = .tup [.int i, q] := by
 unfold BT at h
 rw [getElem?_map, getElem?_zipIdx] at h
 cases e : ps[i]? with
 | none => rw [e] at h; cases h
 | some q => rw [e] at h; simp at h; exact ⟨q, rfl, h.symm⟩
section
variable {e : Addr}
theorem DU {Q : Nat → Value → Prop} {Sx : Nat → Heap → Prop} {fp : List Addr} {E' : QV} (hne : e ≠ it)
  (D : Draws X.prog X.w A.in1 it fp n Q Sx) (he : IsEnum s.heap e it i old) (st : Sx i s.heap) (hi : i < n) (hef : e ∉ fp) (hw : ∀ b ∈ [e, it], b ∈ Z) (ht : Bx target) (P : Hp X A.handled Z L s)
  (hq : ∀ x, Q i x → Aj (dz L Z) s.heap q x)
  (h : ∀ v s', Aj (dz L Z) s'.heap (.tup [.int i, q]) v → Hp X A.handled Z L s' → (∃ old, IsEnum s'.heap e it ((i + 1 : Nat) : Int) old) → Sx (i + 1) s'.heap → Kp (dz L Z) (dz L Z) s.heap s'.heap → Nx [e, it] [] s s' → R v s') :
  wpAny X.M A (pyNext (.ref e)) (fun r s1 => ∃ v, r = some v ∧ wpAny X.M A (letOwnedTupleGo target (.ref e) v) (fun _ s2 => R v s2) E' s1) E s := by
 refine wpAny_pyNext_enum_itemD D he st hi hne hef fun x h' tk hP ho hs' hT hsz hk => ?_
 have N : Nx [e, it] [] s { s with heap := h', toks := tk + 1 } := ⟨fun b o n e1 => hk b o (fun q => n (by simp [q])) (fun q => n (by simp [q])) e1, fun _ _ _ e => e⟩
 refine Ao (fun o2 ho2 => ?_) <| D.live _ _ hs'
 obtain ⟨P1, kp1⟩ := P.nx hw N.1 (fun b hb => by
  revert b hb; refine Ev ?_ ?_
  ·exact ⟨_, ho⟩
  ·exact ⟨o2, ho2⟩) rfl P.bare
 have hTn : s.heap.objs.size ∉ dz L Z := P.new (le_refl _)
 refine ⟨_, rfl, ?_⟩
 cases target with
 | Tuple elts x1 pos =>
  refine wpAny_letOwnedTupleGo_enum ho fun h2 he2 hs2 => ?_
  have N2 : Nx [e, it] [] { s with heap := h', toks := tk + 1 } { s with heap := h2, toks := tk + 1 } := ⟨fun b o n e1 => (hs2.2 b fun q => n (by simp [q])).trans e1, fun _ _ _ e => e⟩
  obtain ⟨P2, kp2⟩ := P1.nx hw N2.1 (fun b hb => by
   revert b hb; refine Ev ?_ ?_
   ·exact ⟨_, he2⟩
   ·exact ⟨o2, (hs2.2 _ (Ne.symm hne)).trans ho2⟩) rfl P1.bare
  have helt : e < s.heap.objs.size := lt_size he
  refine h _ _ ?_ P2 ⟨_, by simpa using he2⟩ (D.frame _ _ _ hs' fun b hb o e1 => (hs2.2 b fun q => hef (q ▸ hb)).trans e1) (kp1.trans kp2) (N.trans N2)
  refine Exists.intro _ ⟨[.int i tk, x], 0, rfl, ⟨(hs2.2 _ (ne_of_gt helt)).trans hT, hTn⟩, ?_⟩
  exact .cons (AT _ _) (.cons ((hq x hP).kp (kp1.trans kp2)) .nil)
 | _ => exact ht.elim
theorem DT {ps₀ : List PV} {Ok : Ai → Prop} (S : Eh X H d it wr gn ps₀ Ok St) {i : Int} {R : Option Value → Shared → Prop}
  (hA : A.handled = H) (hd : Dy A.in1 d) (he : IsEnum s.heap e it i old) (st : St ps₀.length (dz L Z) s) (ok : Ok L) (hw : ∀ b ∈ wr, b ∈ Z) (P : Hp X H Z L s) (h : ∀ s', Hp X H Z L s' → Nx wr gn s s' → R none s') :
  wpAny X.M A (pyNext (.ref e)) R E s := by
 have hT : s.TypeIs (.ref e) "enumerate" := ⟨_, he, rfl⟩
 unfold pyNext
 refine wpAny_bind (wpAny_attempt (wpAny_callSpecial?_slot (name := ofString "__next__") hT F.slot_enumerate_next
  (wpAny_call_entry F.slot_enumerate_next hT F.entry_enumerate_next ?_ (F.args_enumerate_next_1 _))))
 show wpAny _ _ (field (.ref e) 2 >>= _) _ _ _
 refine wpAny_bind (wpAny_field he rfl (x := .ref it) rfl ?_)
 refine wpAny_bind (S.endOf (A := A.in1) hA hd ok P hw st fun x s' P' N hx' => ?_)
 refine Ar (fun o ho hc => ?_) <| hx'
 exact wpAny_bind (wpAny_isInstance (T := "StopIteration") (b := true) ⟨o, ho, hc⟩ isSubtype_stop (wpAny_pure (h s' P' N)))
theorem Ei.enum_list {l : Addr} (hne : e ≠ it) (hle : l ≠ e) (hlt : l ≠ it) :
  Ei X none d Bx e [e, it] [] (BT ps) (fun L => LV L p ps) (fun i D s => (∃ old, IsEnum s.heap e it (i : Nat) old) ∧ s.heap.IsListIter it l i ∧ Aj D s.heap p (.ref l)) where
 mono := fun i D D' s s' st kp hw _ => by
  refine CP (fun o₀0 o₀1 V => ?_) <| st; obtain ⟨old, he⟩ := o₀0; obtain ⟨o, ho, r⟩ := o₀1
  exact ⟨⟨old, hw e (by simp) _ he⟩, ⟨o, hw it (by simp) o ho, r⟩, V.kp kp⟩
 item := fun A i q Z L s E E' target R hA hd ht hp ok P hw st h => by
  refine CP (fun o₀0 hit V => ?_) <| st; obtain ⟨old, he⟩ := o₀0
  refine Ar (fun q hq e₀2 => ?_) <| Bl hp; obtain rfl := e₀2
  have P' := hA ▸ P
  refine BZ (fun a vs n ea hL rl => ?_) <| ok.at P V
  cases ea
  refine Ar (fun x hx Vx => ?_) <| rl.get hq
  have hlt' : i < vs.toArray.size := by
   rcases lt_or_ge i vs.length with y | y
   ·simpa using y
   ·rw [getElem?_eq_none y] at hx; cases hx
  refine DU hne (Draws.list (A := A.in1) hA it l hlt vs.toArray) he ⟨hit, Ah hL⟩ hlt' (by simp [hne, Ne.symm hle]) hw ht P' (q := q) (fun y hy => ?_) fun v s' a1 a2 a3 a4 a5 a6 => ?_
  ·have : x = y := by
    have hx' : vs.toArray[i]? = some x := by simpa using hx
    rw [hx'] at hy; cases hy; rfl
   exact this ▸ Vx
  ·exact h v s' a1 (hA ▸ a2) ⟨a3, a4.1, V.kp a5⟩ a6
 done := fun A Z L s E R hA hd ok P hw st h => by
  rw [Cd] at st
  refine CP (fun o₀0 hit V => ?_) <| st; obtain ⟨old, he⟩ := o₀0
  exact DT (Eh.list (X := X) (H := none) (d := (d.1, d.2 + 1)) (p := p) (ps := ps) (l := l)) hA (CB hd) he ⟨hit, V⟩ ok (fun b hb => hw b (by first | exact .tail _ hb | (simp at hb; simp [hb]))) P fun s' P' N => h s' P' (N.sub (fun b hb => by first | exact .tail _ hb | (simp at hb; simp [hb])) fun _ hb => hb)
 self := fun A i D s E R st hR => let ⟨⟨old, he⟩, _⟩ := st; wpAny_pyIter_enum he hR
theorem Ei.enum_str {x : List Nat} (hne : e ≠ it) :
  Ei X none d Bx e [e, it] [] (BT (Bk x)) (fun _ => True) (fun i D s => (∃ old, IsEnum s.heap e it (i : Nat) old) ∧ s.heap.IsStrIter it (strIterType ⟨x.toArray⟩) ⟨x.toArray⟩ t i) where
 mono := fun i D D' s s' st kp hw _ => by
  refine Av (fun o₀0 o₀1 => ?_) <| st; obtain ⟨old, he⟩ := o₀0; obtain ⟨o, ho, r⟩ := o₀1
  exact ⟨⟨old, hw e (by simp) _ he⟩, ⟨o, hw it (by simp) o ho, r⟩⟩
 item := fun A i q Z L s E E' target R hA hd ht hp ok P hw st h => by
  refine Av (fun o₀0 hit => ?_) <| st; obtain ⟨old, he⟩ := o₀0
  refine Ar (fun q hq e₀2 => ?_) <| Bl hp; obtain rfl := e₀2
  refine Ar (fun c hc e₀2 => ?_) <| Dg hq; obtain rfl := e₀2
  have P' := hA ▸ P
  have hlt' : i < (⟨x.toArray⟩ : Str).cps.size := by
   rcases lt_or_ge i x.length with y | y
   ·simpa using y
   ·rw [getElem?_eq_none y] at hc; cases hc
  have hv : ∀ y : Value, (∃ c u, (⟨x.toArray⟩ : Str).cps[i]? = some c ∧ y = .str ⟨#[c]⟩ u) → Aj (dz L Z) s.heap (.str [c]) y := by
   rintro y ⟨c', u, h1, rfl⟩
   have : c = c' := by
    have hx' : (⟨x.toArray⟩ : Str).cps[i]? = some c := by simpa using hc
    rw [hx'] at h1; cases h1; rfl
   subst this
   exact DO ⟨#[c]⟩ u (by show 1 ≤ sizeLine; decide)
  unfold strIterType at hit
  split at hit
  ·rename_i hty
   exact DU hne (Draws.strAscii (A := A.in1) hA it ⟨x.toArray⟩ t) he hit hlt' (by simp [hne]) hw ht P' (q := .str [c]) hv fun v s' a1 a2 a3 a4 a5 a6 => h v s' a1 (hA ▸ a2) ⟨a3, by unfold strIterType; rw [if_pos hty]; exact a4⟩ a6
  ·rename_i hty
   exact DU hne (Draws.strWide (A := A.in1) hA it ⟨x.toArray⟩ t) he hit hlt' (by simp [hne]) hw ht P' (q := .str [c]) hv fun v s' a1 a2 a3 a4 a5 a6 => h v s' a1 (hA ▸ a2) ⟨a3, by unfold strIterType; rw [if_neg hty]; exact a4⟩ a6
 done := fun A Z L s E R hA hd ok P hw st h => by
  rw [Cd] at st
  refine Av (fun o₀0 hit => ?_) <| st; obtain ⟨old, he⟩ := o₀0
  unfold strIterType at hit
  split at hit
  ·exact DT (Eh.str_ascii (X := X) (H := none) (d := (d.1, d.2 + 1)) (l := x) (t := t)) hA (CB hd) he hit ok (fun b hb => hw b (by first | exact .tail _ hb | (simp at hb; simp [hb]))) P fun s' P' N => h s' P' (N.sub (fun b hb => by first | exact .tail _ hb | (simp at hb; simp [hb])) fun _ hb => hb)
  ·exact DT (Eh.str_wide (X := X) (H := none) (d := (d.1, d.2 + 1)) (l := x) (t := t)) hA (CB hd) he hit ok (fun b hb => hw b (by first | exact .tail _ hb | (simp at hb; simp [hb]))) P fun s' P' N => h s' P' (N.sub (fun b hb => by first | exact .tail _ hb | (simp at hb; simp [hb])) fun _ hb => hb)
 self := fun A i D s E R st hR => let ⟨⟨old, he⟩, _⟩ := st; wpAny_pyIter_enum he hR
end
noncomputable def Lm (ps qs : List PV) : List PV := (ps.zip qs).map fun x => .tup [x.1, x.2]
theorem IV (h : qs.length = ps.length) : (Lm ps qs).length = ps.length := by simp [Lm, h]
theorem IU (h : (Lm ps qs)[i]? = some p) : ∃ a b, ps[i]? = some a ∧ qs[i]? = some b ∧ p = .tup [a, b] := by
 unfold Lm at h
 rw [getElem?_map] at h
 cases e : (ps.zip qs)[i]? with
 | none => rw [e] at h; cases h
 | some q =>
  rw [e] at h
  rw [List.getElem?_zip_eq_some] at e
  simp at h
  exact ⟨q.1, q.2, e.1, e.2, h.symm⟩
theorem NP {M : Model} {a : α} {l : List α} {b : β} {f : α → β → Sem (ForInStep β)} {Q : β → Shared → Prop}
  (h : wpAny M A (f a b >>= fun r => match r with | .done b => pure b | .yield b => forIn l b f) Q E s) : wpAny M A (forIn (a :: l) b f) Q E s := by
 rw [List.forIn_cons]; exact h
theorem Ei.zip {z TI TO i1 i2 l1 l2 : Addr} (D : ZipApart z TI TO i1 i2 l1 l2) (hlen : qs.length = ps.length) :
  Ei X none d Bx z [z, TI, TO, i1, i2] [] (Lm ps qs) (fun L => LV L p1 ps ∧ LV L p2 qs) (fun i D s => IsZip s.heap z TI TO .none ∧ IsPair s.heap TI (.ref i1) (.ref i2) ∧ (∃ a b, IsPair s.heap TO a b) ∧
   s.heap.IsListIter i1 l1 i ∧ s.heap.IsListIter i2 l2 i ∧ Aj D s.heap p1 (.ref l1) ∧ Aj D s.heap p2 (.ref l2)) where
 mono := fun i D D' s s' st kp hw _ => by
  refine Ol (fun hz hTI o₀2 o₀3 o₀4 V1 V2 => ?_) <| st; obtain ⟨a, b, hTO⟩ := o₀2; obtain ⟨o1, ho1, r1⟩ := o₀3; obtain ⟨o2, ho2, r2⟩ := o₀4
  exact ⟨hw z (by simp) _ hz, hw TI (by simp) _ hTI, ⟨a, b, hw TO (by simp) _ hTO⟩, ⟨o1, hw i1 (by simp) o1 ho1, r1⟩, ⟨o2, hw i2 (by simp) o2 ho2, r2⟩, V1.kp kp, V2.kp kp⟩
 item := fun A i q Z L s E E' target R hA hd ht hp ok P hw st h => by
  refine Ol (fun hz hTI o₀2 h1 h2 V1 V2 => ?_) <| st; obtain ⟨a, b, hTO⟩ := o₀2
  refine Bv (fun qa qb hqa hqb e₀4 => ?_) <| IU hp; obtain rfl := e₀4
  refine BZ (fun _ vs1 n1 ea hL1 r1 => ?_) <| ok.1.at P V1
  cases ea
  refine BZ (fun _ vs2 n2 ea hL2 r2 => ?_) <| ok.2.at P V2
  cases ea
  refine Ar (fun x hx Vx => ?_) <| r1.get hqa
  refine Ar (fun y hy Vy => ?_) <| r2.get hqb
  refine wpAny_pyNext_zip_item D hz hTI hTO h1 h2 (Ah hL1) (Ah hL2) (x := x) (y := y) (by simpa using hx) (by simpa using hy) fun h' a1 a2 a3 a4 a5 a6 a7 => ?_
  have hTI' : IsPair h' TI (.ref i1) (.ref i2) := a7 TI _ D.TIz D.TITO D.TIi1 D.TIi2 hTI
  have N : Nx [z, TI, TO, i1, i2] [] s { s with heap := h' } := ⟨fun c o n e1 => by simp at n; exact a7 c o n.1 n.2.2.1 n.2.2.2.1 n.2.2.2.2 e1, fun _ _ _ e => e⟩
  obtain ⟨P1, kp1⟩ := P.nx hw N.1 (fun b hb => by
   revert b hb; refine LA ?_ ?_ ?_ ?_ ?_
   ·exact ⟨_, a1⟩
   ·exact ⟨_, hTI'⟩
   ·exact ⟨_, a2⟩
   ·exact let ⟨o, e, _⟩ := a3; ⟨o, e⟩
   ·exact let ⟨o, e, _⟩ := a4; ⟨o, e⟩) rfl P.bare
  have hTn : s.heap.objs.size ∉ dz L Z := P.new (le_refl _)
  refine ⟨_, rfl, ?_⟩
  cases target with
  | Tuple elts x1 pos =>
   refine wpAny_letOwnedTupleGo_zip a1 fun h2' hz2 hs2 => ?_
   have N2 : Nx [z, TI, TO, i1, i2] [] { s with heap := h' } { s with heap := h2' } := ⟨fun b o n e1 => (hs2.2 b fun q => n (by simp [q])).trans e1, fun _ _ _ e => e⟩
   have up : ∀ c o, c ≠ z → h'.get? c = some o → h2'.get? c = some o := fun c o hc e => (hs2.2 c hc).trans e
   obtain ⟨P2, kp2⟩ := P1.nx hw N2.1 (fun b hb => by
    revert b hb; refine LA ?_ ?_ ?_ ?_ ?_
    ·exact ⟨_, hz2⟩
    ·exact ⟨_, up _ _ D.TIz hTI'⟩
    ·exact ⟨_, up _ _ D.TOz a2⟩
    ·exact let ⟨o, e, _⟩ := a3; ⟨o, up _ _ D.i1z e⟩
    ·exact let ⟨o, e, _⟩ := a4; ⟨o, up _ _ D.i2z e⟩) rfl P1.bare
   have hzlt : z < s.heap.objs.size := lt_size hz
   have kp := kp1.trans kp2
   refine h _ _ ?_ P2 ⟨hz2, up _ _ D.TIz hTI', ⟨_, _, up _ _ D.TOz a2⟩, let ⟨o, e, r⟩ := a3; ⟨o, up _ _ D.i1z e, r⟩, let ⟨o, e, r⟩ := a4; ⟨o, up _ _ D.i2z e, r⟩, V1.kp kp, V2.kp kp⟩ (N.trans N2)
   exact Exists.intro _ ⟨[x, y], 0, rfl, ⟨up _ _ (ne_of_gt hzlt) a5, hTn⟩, .cons (Vx.kp kp) (.cons (Vy.kp kp) .nil)⟩
  | _ => exact ht.elim
 done := fun A Z L s E R hA hd ok P hw st h => by
  rw [IV hlen] at st
  refine Ol (fun hz hTI o₀2 h1 h2 V1 V2 => ?_) <| st; obtain ⟨a, b, hTO⟩ := o₀2
  have hT : s.TypeIs (.ref z) "zip" := ⟨_, hz, rfl⟩
  unfold pyNext
  refine wpAny_bind (wpAny_attempt (wpAny_callSpecial?_slot (name := ofString "__next__") hT F.slot_zip_next
   (wpAny_call_entry F.slot_zip_next hT F.entry_zip_next ?_ (F.args_zip_next_1 _))))
  show wpAny _ _ (field (.ref z) 2 >>= _) _ _ _
  refine wpAny_bind (wpAny_field hz rfl (x := .bool false) rfl ?_)
  show wpAny _ _ (field (.ref z) 3 >>= _) _ _ _
  refine wpAny_bind (wpAny_field hz rfl (x := .ref TI) rfl ?_)
  refine wpAny_bind (wpAny_seqItems hTI rfl ?_)
  show wpAny _ _ (Builtin.SmallTypes.ownedTupleIsFree (.ref z) >>= _) _ _ _
  refine wpAny_bind ?_
  unfold Builtin.SmallTypes.ownedTupleIsFree
  refine wpAny_bind (wpAny_field hz rfl (x := .none) rfl (wpAny_pure ?_))
  refine wpAny_ite_true rfl (wpAny_bind (wpAny_rule ?_))
  refine wpAny_bind (wpAny_field hz rfl (x := .ref TO) rfl ?_)
  refine wpAny_bind (wpAny_setField_rec hz (by simp) fun h₁ hz₁ hs₁ => ?_)
  replace hz₁ : IsZip h₁ z TI TO .ellipsis := hz₁
  have live : ∀ (h' : Heap), (∀ c o, c ≠ z → s.heap.get? c = some o → h'.get? c = some o) → (∃ o, h'.get? z = some o) → ∀ b ∈ [z, TI, TO, i1, i2], ∃ o, h'.get? b = some o := fun h' up hz' b hb => by
   revert b hb; refine LA ?_ ?_ ?_ ?_ ?_
   ·exact hz'
   ·exact ⟨_, up _ _ D.TIz hTI⟩
   ·exact ⟨_, up _ _ D.TOz hTO⟩
   ·exact let ⟨o, e, _⟩ := h1; ⟨o, up _ _ D.i1z e⟩
   ·exact let ⟨o, e, _⟩ := h2; ⟨o, up _ _ D.i2z e⟩
  have N1 : Nx [z, TI, TO, i1, i2] [] s { s with heap := h₁ } := ⟨fun b o n e1 => (hs₁.2 b fun q => n (by simp [q])).trans e1, fun _ _ _ e => e⟩
  refine Av (fun P1 kp1 => ?_) <| P.nx hw N1.1 (live h₁ (fun c o hc e => (hs₁.2 c hc).trans e) ⟨_, hz₁⟩) rfl P.bare
  refine wpAny_bind ?_
  refine NP (wpAny_bind (wpAny_bind (wpAny_onRaise ?_)))
  show wpAny _ _ (Builtin.SmallTypes.nextOf (.ref i1) >>= _) _ _ _
  refine wpAny_bind ((Eh.list (X := X) (H := none) (d := (d.1, d.2 + 1)) (p := p1) (ps := ps) (l := l1) (I := i1)).endOf (A := A.in1) hA (CB hd) ok.1 P1 (fun b hb => hw b (by first | exact .tail _ hb | (simp at hb; simp [hb]))) ⟨let ⟨o, e, r⟩ := h1; ⟨o, (hs₁.2 _ D.i1z).trans e, r⟩, V1.kp kp1⟩ fun e s2 P2 N2 he => ?_)
  refine Ar (fun oe hoe hce => ?_) <| he
  have hz₂ : IsZip s2.heap z TI TO .ellipsis := N2.1 z _ (by simp; exact Ne.symm D.i1z) hz₁
  have hez : e ≠ z := fun q => by rw [q, hz₂] at hoe; cases hoe; simp at hce
  refine wpAny_setField_rec hz₂ (by simp) fun h₃ hz₃ hs₃ => ?_
  have N3 : Nx [z, TI, TO, i1, i2] [] s2 { s2 with heap := h₃ } := ⟨fun b o n e1 => (hs₃.2 b fun q => n (by simp [q])).trans e1, fun _ _ _ e => e⟩
  obtain ⟨P3, _⟩ := P2.nx hw N3.1 (fun b hb => by
   by_cases q : b = z
   ·subst q; exact ⟨_, hz₃⟩
   ·refine Ao (fun o eo => ?_) <| P2.zone b (hw b hb); exact ⟨o, (hs₃.2 b q).trans eo⟩) rfl P2.bare
  refine wpAny_bind (wpAny_isInstance (T := "StopIteration") (b := true) ⟨oe, (hs₃.2 _ hez).trans hoe, hce⟩ isSubtype_stop (wpAny_pure (h _ P3 ?_)))
  exact (N1.trans (N2.sub (fun b hb => by first | exact .tail _ hb | (simp at hb; simp [hb])) fun _ hb => hb)).trans N3
 self := fun A i D s E R st hR => wpAny_pyIter_zip st.1 hR
theorem Ew {BU : List PV} {P : QV}
  (K : Bw X pf) (F : Fm X A.handled Z env nm m L s) (Vf : Aj (dz L Z) s.heap pf fv) (Vs : Ae (dz L Z) s.heap BU fvs)
  (h : WEs X A env nm m (spliced (backTo pos (starEach (e :: rest) env))) L fun ps L1 => WKs X A env nm m pos kws L1 fun ks L2 => ∀ s2 fv vs kvs, Hp X A.handled Z L2 s2 → Aj (dz L2 Z) s2.heap pf fv → Ae (dz L2 Z) s2.heap (BU ++ ps) vs →
   BO (dz L2 Z) s2.heap (((backToKw pos (keywordEach kws env)).filterMap (·.1)).zip ks) kvs → BF L L2 s s2 → wpAny X.M A (call fv vs kvs) P E s2)
  (he : starEach (e :: rest) env = (false, eval e env) :: starEach rest env)
  (hplain : ((backTo pos (starEach (e :: rest) env)).any (·.1) || (backToKw pos (keywordEach kws env)).any (·.1.isNone)) = false)
  (hall : (backToKw pos (keywordEach kws env)).all (·.1.isSome) = true) :
  wpAny X.M A (callWith pos fv fvs (backTo pos (starEach (e :: rest) env)) (backToKw pos (keywordEach kws env))) P E s := by
 refine callWith_of (P := fun h => ∃ k, (k = Keeper.frame ∨ k = Keeper.machine ∨ k = Keeper.boundFrame) ∧ Looks X.M h (keeperOf fv) k) hplain (fun _ p => p) ?_
 refine evalArgs_kw2 hall ?_ he
 refine wvs (h Z s E F) fun vs s1 ps L1 h1 P1 V1 e1 => ?_
 refine wvs (h1 Z s1 E (F.ext e1 P1)) fun ks s2 kps L2 C P2 V2 e2' => ?_
 have e2 := e1.trans e2'
 exact ⟨K _ Z L2 s2 fv P2 (Vf.ext e2), C s2 fv _ _ P2 (Vf.ext e2) ((Vs.ext e2).append (V1.ext e2')) (BO.zip V2) e2⟩
def Fi (X : Cx) (A : Around) (tg : PySem.Expr → Prop) (f : PV) (ps : List PV) (L : Ai) (Q : List PV → (Ai → Prop) → Ai → Prop) : Prop :=
 ∀ Z s E fv vs, Hp X A.handled Z L s → Aj (dz L Z) s.heap f fv → Ae (dz L Z) s.heap ps vs → wpAny X.M A (call fv vs []) (Em X A.handled (dd A) tg Z L s Q) E s
abbrev KCj (X : Cx) (A : Around) (tg : PySem.Expr → Prop) (Q : List PV → (Ai → Prop) → Ai → Prop) (pf : PV) : List PV → Ai → Prop := fun ps L => Fi X A tg pf ps L Q
abbrev KCi (X : Cx) (A : Around) (env : Env) (nm : Nm) (m : AU) (pos : Pos) (args : List PySem.Expr) (tg : PySem.Expr → Prop) (Q : List PV → (Ai → Prop) → Ai → Prop) : QE := fun pf L => Bw X pf ∧ WEs X A env nm m (spliced (backTo pos (starEach args env))) L (KCj X A tg Q pf)
theorem QI {f : PySem.Expr} {Q : List PV → (Ai → Prop) → Ai → Prop}
  (h : WE X A env nm m (eval f env) L (KCi X A env nm m pos (e :: rest) tg Q))
  (hc : eval (.Call f (e :: rest) [] pos) env = (do callWith pos (← eval f env) [] (backTo pos (starEach (e :: rest) env)) (backToKw pos (keywordEach [] env))))
  (he : starEach (e :: rest) env = (false, eval e env) :: starEach rest env)
  (hplain : ((backTo pos (starEach (e :: rest) env)).any (·.1) || (backToKw pos (keywordEach [] env)).any (·.1.isNone)) = false)
  (hall : (backToKw pos (keywordEach [] env)).all (·.1.isSome) = true) : WI X A env nm m (eval (.Call f (e :: rest) [] pos) env) L tg Q := fun Z s E F => by
 rw [hc]
 refine wpAny_bind (wv (h Z s E F) fun fv s1 pf L1 o2 P1 V1 e1 => ?_)
 obtain ⟨K, h1⟩ := o2
 refine Ap (Ew (P := Em X A.handled (dd A) tg Z L1 s1 Q) K (F.ext e1 P1) V1 .nil (h1.mono fun ps L2 C => GQ ?_) he hplain hall) fun v s2 h2 => h2.after e1
 intro s2 fv2 vs kvs P2 V2 Vs2 K2 e2
 have : kvs = [] := by
  have hz : ((backToKw pos (keywordEach [] env)).filterMap (·.1)).zip ([] : List PV) = [] := by simp
  rw [hz] at K2; cases K2; rfl
 subst this
 exact Ap (C Z s2 E fv2 vs P2 V2 Vs2) fun v s3 h3 => h3.after e2
theorem Kn {r : Addr} {a : Int} {u v : Tok} {Q : List PV → (Ai → Prop) → Ai → Prop} (hr : IsRange s.heap r a b 1 t u v) (ha : -(2 ^ 62) ≤ a) (ha' : a < 2 ^ 62) (hb : -(2 ^ 62) ≤ b) (hb' : b < 2 ^ 62)
  (P : Hp X A.handled Z L s) (k₀ : Keeps s₀ s) (h : Q (rng a 1 (b - a).toNat) (fun _ => True) L) : Em X A.handled (dd A) Ay Z L s₀ Q (.ref r) s := by
 refine Em.after (.keeps k₀) ⟨_, _, L, h, fun A' E R hA hd h' => ?_⟩
 refine wpAny_pyIter_range hr (small_one ha ha' hb hb') ?_
 have k := A9 s { cls := .type "range_iterator", data := .fields #[rawInt a, rawInt (Builtin.Range.rangeSize a b 1), rawInt 1] } s.toks
 obtain ⟨P', kp⟩ := P.grow (Z' := [s.heap.objs.size]) k fun a ha => by
  simp at ha; subst ha
  exact ⟨le_refl _, _, get?_push_size _ rfl⟩
 refine h' _ [s.heap.objs.size] [] _ _ Eh.range.turn.dyn ⟨rfl, ?_⟩ P' (.keeps k) (fun a ha => by simp at ha; subst ha; exact Ac _ (le_refl _)) fun g hg => by cases hg
 have e1 : Builtin.Range.rangeSize a b 1 = (((b - a).toNat : Nat) : Int) - ((0 : Nat) : Int) := by rw [rangeSize_one]; split <;> lia
 rw [← e1]
 have e2 : a + ((0 : Nat) : Int) * 1 = a := by exact q01 0x5004184f401420 rt
 rw [e2]
 exact get?_push_size _ rfl
theorem Dh {Q : List PV → (Ai → Prop) → Ai → Prop} (hb : -(2 ^ 62) ≤ b) (hb' : b < 2 ^ 62) (h : Q (rng 0 1 b.toNat) (fun _ => True) L) : Fi X A Ay (.val (.type "range")) [.int b] L Q := fun Z s E fv vs P Vf Vs => by
 apply AI Vf
 apply Vs.cons_el; intro v r V y
 apply y.nil_el
 apply Ax V; intro t
 have k := A9 s { cls := .type "range", data := .fields #[.int 0 s.toks, .int b t, .int 1 (s.toks + 1)] } (s.toks + 1 + 1)
 refine call_range_1 (Kn (IsRange.new _ _ _ _ _ _ _) (by decide) (by decide) hb hb' (P.keeps k) k ?_)
 rw [Int.sub_zero]; exact h
theorem Hk {a : Int} {Q : List PV → (Ai → Prop) → Ai → Prop} (ha : -(2 ^ 62) ≤ a) (ha' : a < 2 ^ 62) (hb : -(2 ^ 62) ≤ b) (hb' : b < 2 ^ 62) (h : Q (rng a 1 (b - a).toNat) (fun _ => True) L) : Fi X A Ay (.val (.type "range")) [.int a, .int b] L Q := fun Z s E fv vs P Vf Vs => by
 apply AI Vf
 apply Vs.cons_el; intro v r V y
 apply y.cons_el; intro v2 r2 V2 y
 apply y.nil_el
 apply Ax V; intro t
 apply Ax V2; intro u
 have k := A9 s { cls := .type "range", data := .fields #[.int a t, .int b u, .int 1 s.toks] } (s.toks + 1)
 exact call_range_2 (Kn (IsRange.new _ _ _ _ _ _ _) ha ha' hb hb' (P.keeps k) k h)
theorem Cb {Q : List PV → (Ai → Prop) → Ai → Prop} (hh : A.handled = none) (l : LV L p ps) (h : Q (BT ps) (fun L => LV L p ps) L) : Fi X A Bx (.val (.type "enumerate")) [p] L Q := fun Z s E fv vs P Vf Vs => by
 apply AI Vf
 apply Vs.cons_el; intro v r V y
 apply y.nil_el
 have V0 := V; revert V0; apply l.el P V; intro a ws n ho rl V
 have hal := lt_size ho
 refine call_enumerate_list (Ah ho) fun h' he hit hsz hk => ?_
 have k : Keeps s { s with heap := h' } := ⟨h', s.toks, rfl, hk⟩
 refine ⟨_, _, L, h, fun A' E R hA hd hc => ?_⟩
 refine wpAny_pyIter_enum he ?_
 obtain ⟨P', kp⟩ := P.grow (Z' := [s.heap.objs.size + 1, s.heap.objs.size]) k fun a ha => by
  revert a ha; refine Ev ?_ ?_
  ·exact ⟨le_succ _, _, he⟩
  ·exact ⟨le_refl _, let ⟨o, e, _⟩ := hit; ⟨o, e⟩⟩
 refine hc _ [s.heap.objs.size + 1, s.heap.objs.size] [] _ _ (hh ▸ (Ei.enum_list (d := dd A) (p := p) (ps := ps) (l := a) (Nat.succ_ne_self _) (ne_of_lt (lt_succ_of_lt hal)) (ne_of_lt hal)).dyn) ⟨rfl, ⟨_, he⟩, hit, V.kp kp⟩ P' (.keeps k) (fun b hb => ?_) fun g hg => by cases hg
 revert b hb; refine Ev ?_ ?_
 ·exact Ac _ (le_succ _)
 ·exact Ac _ (le_refl _)
theorem OO {N a b : Nat} (h : a < N) (h' : b < N) : ZipApart (N + 4) (N + 2) (N + 3) N (N + 1) a b where
 TIz := show (N + 2 : Nat) ≠ N + 4 by exact Aq 0x211001110011a00 rt
 TOz := show (N + 3 : Nat) ≠ N + 4 by exact Aq 0x211001910011a00 rt
 i1z := show (N : Nat) ≠ N + 4 by exact Aq 4544083859968 rt
 i2z := show (N + 1 : Nat) ≠ N + 4 by exact Aq 0x211000910011a00 rt
 TITO := show (N + 2 : Nat) ≠ N + 3 by exact Aq 0x191001110011a00 rt
 TIi1 := show (N + 2 : Nat) ≠ N by exact Aq 8869375973408 rt
 TIi2 := show (N + 2 : Nat) ≠ N + 1 by exact Aq 0x91001110011820 rt
 TOi1 := show (N + 3 : Nat) ≠ N by exact Aq 8903735711776 rt
 TOi2 := show (N + 3 : Nat) ≠ N + 1 by exact Aq 0x91001910011820 rt
 i12 := show (N : Nat) ≠ N + 1 by exact Aq 1245548976640 rt
 l1z := show (a : Nat) ≠ N + 4 by exact Aa 0x4224081192808601 rt h
 l1TO := show (a : Nat) ≠ N + 3 by exact Aa 0x3224081192808601 rt h
 l1i1 := show (a : Nat) ≠ N by exact Aa 325530914162177 rt h
 l1i2 := show (a : Nat) ≠ N + 1 by exact Aa 0x1224081192808601 rt h
 l2z := show (b : Nat) ≠ N + 4 by exact Aa 0x4224081192808601 rt h'
 l2TO := show (b : Nat) ≠ N + 3 by exact Aa 0x3224081192808601 rt h'
 l2i1 := show (b : Nat) ≠ N by exact Aa 325530914162177 rt h'
 l2i2 := show (b : Nat) ≠ N + 1 by exact Aa 0x1224081192808601 rt h'
theorem Ou {Q : List PV → (Ai → Prop) → Ai → Prop} (hh : A.handled = none) (l : LV L p ps) (l' : LV L q qs) (hlen : qs.length = ps.length) (h : Q (Lm ps qs) (fun L => LV L p ps ∧ LV L q qs) L) :
  Fi X A Bx (.val (.type "zip")) [p, q] L Q := fun Z s E fv vs P Vf Vs => by
 apply AI Vf
 apply Vs.cons_el; intro v r V y
 apply y.cons_el; intro v2 r2 V2 y
 apply y.nil_el
 have V0 := V; revert V0; apply l.el P V; intro a ws n ho rl V
 have V0 := V2; revert V0; apply l'.el P V2; intro a2 ws2 n2 ho2 rl2 V2
 have hal := lt_size ho
 have hal2 := lt_size ho2
 refine call_zip_2 (Ah ho) (Ah ho2) fun h' hz hTI hTO h1 h2 hsz hk => ?_
 have k : Keeps s { s with heap := h' } := ⟨h', s.toks, rfl, hk⟩
 refine ⟨_, _, L, h, fun A' E R hA hd hc => ?_⟩
 refine wpAny_pyIter_zip hz ?_
 generalize hN : s.heap.objs.size = N at *
 have D : ZipApart (N + 4) (N + 2) (N + 3) N (N + 1) a a2 := OO hal hal2
 obtain ⟨P', kp⟩ := P.grow (Z' := [N + 4, N + 2, N + 3, N, N + 1]) k fun b hb => by
  rw [hN]
  revert b hb; refine LA ?_ ?_ ?_ ?_ ?_
  ·exact ⟨le_add_right _ _, _, hz⟩
  ·exact ⟨le_add_right _ _, _, hTI⟩
  ·exact ⟨le_add_right _ _, _, hTO⟩
  ·exact ⟨le_refl _, let ⟨o, e, _⟩ := h1; ⟨o, e⟩⟩
  ·exact ⟨le_add_right _ _, let ⟨o, e, _⟩ := h2; ⟨o, e⟩⟩
 refine hc _ [N + 4, N + 2, N + 3, N, N + 1] [] _ _ (hh ▸ (Ei.zip (d := dd A) (p1 := p) (p2 := q) (ps := ps) (qs := qs) D hlen).dyn) ⟨rfl, hz, hTI, ⟨_, _, hTO⟩, h1, h2, V.kp kp, V2.kp kp⟩ P' (.keeps k) (fun b hb => ?_) fun g hg => by cases hg
 refine Ac _ ?_
 rw [hN]
 revert b hb; refine LA ?_ ?_ ?_ ?_ ?_
 ·exact le_add_right _ _
 ·exact le_add_right _ _
 ·exact le_add_right _ _
 ·exact le_refl _
 ·exact le_add_right _ _
theorem Nx.kp (N : Nx wr gn s s') (hw : ∀ b ∈ wr, b ∈ Z) : Kp (dz L Z) (dz L Z) s.heap s'.heap :=
 fun b o e n => ⟨N.1 b o (fun q => n (mem_append_right _ (hw b q))) e, n⟩
theorem Ms (k : BF L L s s1) (N : Nx [I] gn s1 s2) (hI : s.heap.get? I = none) (hg : ∀ g ∈ gn, s.gens[g]? = none) (hz : ∃ o, s2.heap.get? I = some o) : BF L L s s2 := by
 have ne : ∀ a o, s.heap.get? a = some o → a ∉ [I] := fun a o e q => by simp at q; subst q; rw [hI] at e; cases e
 exact ⟨fun a o e n => ⟨N.1 a o (ne a o e) (k.heap a o e n).1, (k.heap a o e n).2⟩, fun g x e => N.2 g x (fun q => by rw [hg g q] at e; cases e) (k.gens g x e), fun a o e => let ⟨o', e'⟩ := k.live a o e; ⟨o', N.1 a o' (ne a o e) e'⟩⟩
section
variable {Ok : Ai → Prop}
theorem LY (S : Eh X H d I wr gn ps Ok St) (hA : A.handled = H) (hd : Dy A d) (ok : Ok L) (hw : ∀ b ∈ wr, b ∈ Z) :
  ∀ (n i : Nat) (s : Shared) (R : List Value → Shared → Prop), St i (dz L Z) s → Hp X H Z L s → i + n ≤ ps.length →
   (∀ vs s', Ae (dz L Z) s'.heap ((ps.drop i).take n) vs → St (i + n) (dz L Z) s' → Hp X H Z L s' → Nx wr gn s s' → R vs s') → wpAny X.M A (draw (.ref I) n) R E s
 | 0, i, s, R, st, P, _, h => by
  show wpAny _ _ (pure []) R E s
  exact wpAny_pure (h [] s (by rw [take_zero]; exact .nil) st P ⟨fun _ _ _ e => e, fun _ _ _ e => e⟩)
 | n + 1, i, s, R, st, P, hle, h => by
  have hlt : i < ps.length := by exact AB 0x1480a8244810000421 rt hle
  show wpAny _ _ (pyNext (.ref I) >>= _) R E s
  refine wpAny_bind (S.next hA hd (getElem?_eq_getElem hlt) ok P hw st fun v s1 V P1 st1 N1 => ?_)
  refine wpAny_bind (wpAny_holding (LY S hA hd ok hw n (i + 1) s1 _ st1 P1 (by exact AB 0x292122000028244810000421 rt hle) fun vs s2 Vs st2 P2 N2 => wpAny_pure ?_))
  refine h (v :: vs) s2 ?_ (by rw [show i + (n + 1) = i + 1 + n by exact GH 0x2424400012240800820 rt]; exact st2) P2 (N1.trans N2)
  rw [drop_eq_getElem_cons hlt, take_succ_cons]
  exact .cons (V.kp (N2.kp hw)) Vs
end
theorem Ep (P : Hp X A.handled Z L s) (V : Aj (dz L Z) s.heap (.tup ps) v) :
  wpAny X.M A (unpackItems v ps.length none) (EX X A.handled Z L s fun qs L' => qs = ps ∧ L' = L) E s := by
 have V₀ := V; revert V₀; apply Dd V; intro t vs n ht _ r V
 have htup : s.heap.IsTuple t vs.toArray := ⟨_, ht, rfl, n, rfl⟩
 unfold unpackItems
 refine wpAny_bind ?_
 unfold notIterableAtAll
 refine wpAny_bind (wpAny_specialOf htup.typeIs F.slot_tuple_iter.lookup ?_)
 refine wpAny_pure ?_
 simp only [false_eq_true, if_false]
 have k := A9 s { cls := .type "tuple_iterator", data := .fields #[.ref t, .int 0 0] } s.toks
 obtain ⟨P1, kp⟩ := P.grow (Z' := [s.heap.objs.size]) k fun a ha => by
  simp at ha; subst ha
  exact ⟨le_refl _, _, get?_push_size _ rfl⟩
 have hw : ∀ b ∈ [s.heap.objs.size], b ∈ [s.heap.objs.size] ++ Z := fun b hb => mem_append_left _ hb
 refine wpAny_bind (wpAny_holding (wpAny_pyIter_tuple htup ?_))
 refine wpAny_bind (wpAny_holding (LY (Eh.tuple (X := X) (H := A.handled) (d := dd A) (I := s.heap.objs.size) (l := t) (ps := ps)) rfl (AR _) trivial hw ps.length 0 _ _ ⟨⟨_, get?_push_size _ rfl, rfl, rfl⟩, V.kp kp⟩ P1 (by exact Aq 283472035872 rt) fun ws s2 Vs st2 P2 N2 => ?_))
 rw [drop_zero, take_length] at Vs
 have hlen : ws.length = ps.length := Vs.length
 rw [if_neg (by rw [hlen]; exact lt_irrefl _)]
 rw [zero_add] at st2
 refine wpAny_bind (wpAny_holding (Eh.tuple.end_ rfl (AR _) trivial P2 hw st2 fun s3 P3 N3 => ?_))
 simp only [Option.isSome_none, false_eq_true, if_false]
 refine wpAny_pure ⟨ps, L, ⟨rfl, rfl⟩, P3.shrink, ?_, Ms (.keeps k) (N2.trans N3) (Ac _ (le_refl _)) (fun g hg => by cases hg) (P3.zone _ (by simp))⟩
 exact (Vs.kp (N3.kp hw)).kp (AP fun a hm => (List.mem_append.mp hm).elim (mem_append_left _) fun q => mem_append_right _ (mem_append_right _ q))
def Nf (X : Cx) (A : Around) (env : Env) (nm : Nm) : AU → List (Value → Sem Unit) → List PV → Ai → (QS) → Prop
 | m, [], [], L, Q => Q m L
 | m, t :: ts, p :: ps, L, Q => WAs X A env nm m t p L fun m' L' => Nf X A env nm m' ts ps L' Q
 | _, _, _, _, _ => False
theorem FV {Q : QS} {ts : List (Value → Sem Unit)} {vs : List Value} (h : Nf X A env nm m ts ps L Q) (F : Fm X A.handled Z env nm m L s) (V : Ae (dz L Z) s.heap ps vs) :
  wpAny X.M A (assignInOrder ts vs) (Lq X A.handled Z env nm L s Q) E s := by
 induction ts generalizing ps m L s vs with
 | nil =>
  cases ps with
  | nil => apply V.nil_el; exact wpAny_pure ⟨m, L, h, F, .refl _ _ _ _⟩
  | cons _ _ => exact False.elim h
 | cons t ts ih =>
  cases ps with
  | nil => exact False.elim h
  | cons p ps =>
   apply V.cons_el; intro v r V1 V2
   show wpAny _ _ (holding r (t v) >>= _) _ _ _
   refine wpAny_bind (wpAny_holding (wa (h Z s E v F V1) fun _ s1 m1 L1 h1 F1 e1 => ?_))
   exact wa (ih h1 F1 (V2.kp (e1.kp F))) fun _ s2 m2 L2 h2 F2 e2 => ⟨m2, L2, h2, F2, e1.trans e2⟩
theorem AQ {x1} {Q : QS} (h : Nf X A env nm m ((assignEach elts env).map (·.2)) ps L Q)
  (hn : (assignEach elts env).length = ps.length) (hstar : (assignEach elts env).findIdx? (·.1) = none) : WAs X A env nm m (assign (.Tuple elts x1 pos) env) (.tup ps) L Q := fun Z s E v F V => by
 rw [arm_assign_Tuple]
 refine wpAny_bind (wpAny_standAt ?_)
 unfold unpack
 rw [hn, hstar]
 refine wpAny_bind (wpAny_holding (wvs (Ep F.hp V) fun vs s1 qs L1 o2 P1 V1 x1 => ?_))
 obtain ⟨e1, e2⟩ := o2
 subst e1 e2
 exact wa (FV h (F.ext x1 P1) V1) fun _ s2 m2 L2 h2 F2 e2 => ⟨m2, L2, h2, F2, x1.toS.trans e2⟩
theorem De {k}
  (h : WE X A env nm m (eval value env) L fun p L1 => WAs X A env nm m (assign (.Tuple elts k tpos) env) p L1 Qn)
  (hs : swapsWithSole [.Tuple elts k tpos] value pos.line env = pure false) (hw : swappedStores [.Tuple elts k tpos] value env = pure none) :
  WS X A env nm m (exec (.Assign [.Tuple elts k tpos] value pos) env) L Qn Qr Qb Qc := fun Z s E F =>
 Assign_Tuple (wv (h Z s E F) fun v s1 p L1 h1 P1 V1 e1 => (wa (h1 Z s1 E v (F.ext e1 P1) V1) fun _ s2 m2 L2 h2 F2 e2 => ⟨.next, m2, L2, h2, F2, rfl, e1.toS.trans e2⟩)) hs hw
theorem Cy {Q : QS} (h : KSt nm m x Q p L) : WAs X A env nm m (bindName env x) p L Q := fun Z s E v F V => by
 refine Bv (fun k m' S hk q => ?_) <| h
 exact wpAny_bindName (F.store S hk V fun s' F' e' => ⟨m', L, q, F', e'⟩)
theorem BY {k} {names : List Str}
  (hs : swapsWithSole [.Tuple elts k tpos] value pos.line env = pure false) (hw : swappedStores [.Tuple elts k tpos] value env = pure (some names))
  (h : WE X A env nm m (eval value env) L fun p L1 => ∃ ps, p = .tup ps ∧ ps.length = names.length ∧ Nf X A env nm m (names.reverse.map fun n => bindName env n) ps.reverse L1 Qn) :
  WS X A env nm m (exec (.Assign [.Tuple elts k tpos] value pos) env) L Qn Qr Qb Qc := fun Z s E F => by
 refine Assign_Tuple_swapped (wv (h Z s E F) fun v s1 p L1 o2 P1 V1 e1 => ?_) hs hw
 obtain ⟨ps, hp, hl, h1⟩ := o2
 subst hp
 rw [← hl]
 refine wvs (Ep P1 V1) fun vs s2 qs L2 o2 P2 V2 e2 => ?_
 obtain ⟨q1, q2⟩ := o2
 subst q1 q2
 have Vr : ∀ {ps : List PV} {vs : List Value} {D : List Addr} {h : Heap}, Ae D h ps vs → Ae D h ps.reverse vs.reverse := fun {ps} => by
  induction ps with
  | nil => intro vs D h V; apply V.nil_el; exact .nil
  | cons p ps ih => intro vs D h V; apply V.cons_el; intro v r V1 V2; rw [List.reverse_cons, List.reverse_cons]; exact (ih V2).append (.cons V1 .nil)
 exact Ap (FV h1 ((F.ext e1 P1).ext e2 P2) (Vr V2)) fun _ s3 ⟨m3, L3, h3, F3, e3⟩ => ⟨.next, m3, L3, h3, F3, rfl, (e1.toS.trans e2.toS).trans e3⟩
theorem Hp.alloc {vs : List Value} (P : Hp X H Z L s) (k : Keeps s s') (ha : s.heap.objs.size ≤ a) (ho : s'.heap.get? a = some (Bh vs n)) (V : Ae (dz L Z) s.heap ps vs) :
  Hp X H Z ((a, .list ps) :: L) s' ∧ BF L ((a, .list ps) :: L) s s' := by
 refine B8 (fun h' tk e₀2 hk => ?_) <| k; obtain rfl := e₀2
 have hna : ∀ b o, s.heap.get? b = some o → b ≠ a := fun b o e q => lt_irrefl _ (lt_of_lt_of_le (q ▸ lt_size e) ha)
 have kp : Kp (dz L Z) (dz ((a, .list ps) :: L) Z) s.heap h' := fun b o e n => ⟨hk b o e, fun hm => by
  rcases List.mem_cons.mp (show b ∈ a :: dz L Z from hm) with q | q
  ·exact hna b o e q
  ·exact n q⟩
 have hza : a ∉ dz L Z := P.new ha
 refine ⟨⟨fun b o e => hk b o (P.keep b o e), P.os, P.bare, fun x hx => ?_, ?_, fun b hb => ?_, fun b hb hz => ?_, fun b hb => let ⟨o, e⟩ := P.zone b hb; ⟨o, hk b o e⟩, P.held.kp kp⟩, ?_⟩
 ·rcases List.mem_cons.mp hx with q | q
  ·subst q; exact ⟨vs, n, ho, V.kp kp⟩
  ·exact BP.kp kp (fun ob e => hk _ _ e) (P.led x q)
 ·exact List.nodup_cons.mpr ⟨fun hm => hza (mem_append_left _ hm), P.nodup⟩
 ·rcases List.mem_cons.mp (show b ∈ a :: dz L Z from hb) with q | q
  ·subst q
   cases e : X.h₀.get? b with
   | none => rfl
   | some o => exact absurd (lt_size (P.keep b o e)) (Nat.not_lt.mpr ha)
  ·exact P.fresh b q
 ·rcases List.mem_cons.mp (show b ∈ a :: dom L from hb) with q | q
  ·subst q; exact hza (mem_append_right _ hz)
  ·exact P.apart b q hz
 ·refine ⟨fun b o e n => ⟨hk b o e, fun hm => ?_⟩, fun _ _ e => e, fun b o e => ⟨o, hk b o e⟩⟩
  rcases List.mem_cons.mp (show b ∈ a :: dom L from hm) with q | q
  ·exact hna b o e q
  ·exact n q
inductive CZ : Ai → Addr → AO → Ai → Prop
 | here {a o L : _} : CZ ((a, o) :: L) a o L
 | there {a o x L L' : _} : CZ L a o L' → CZ (x :: L) a o (x :: L')
theorem CZ.mem {o : AO} (h : CZ L a o L') : (a, o) ∈ L := by
 induction h with
 | here => exact .head _
 | there _ ih => exact .tail _ ih
theorem CZ.sub {o : AO} (h : CZ L a o L') : ∀ x ∈ L', x ∈ L := by
 induction h with
 | here => exact fun x hx => .tail _ hx
 | there _ ih =>
  intro x hx; rcases List.mem_cons.mp hx with q | q
  ·exact q ▸ .head _
  ·exact .tail _ (ih x q)
theorem CZ.nodup {o : AO} (h : CZ L a o L') : (dom L).Nodup → (dom L').Nodup ∧ a ∉ dom L' := by
 induction h with
 | here => intro nd; have := List.nodup_cons.mp nd; exact ⟨this.2, this.1⟩
 | @there a o x L L' h ih =>
  intro nd
  have nd := List.nodup_cons.mp (show (x.1 :: dom L).Nodup from nd)
  refine ⟨List.nodup_cons.mpr ⟨fun hm => nd.1 ?_, (ih nd.2).1⟩, fun hm => ?_⟩
  ·refine Ar (fun y hy e => ?_) <| List.mem_map.mp hm
   exact List.mem_map.mpr ⟨y, h.sub y hy, e⟩
  ·rcases List.mem_cons.mp (show a ∈ x.1 :: dom L' from hm) with q | q
   ·exact nd.1 (q ▸ AX h.mem)
   ·exact (ih nd.2).2 q
theorem Hp.freeze (P : Hp X H Z L s) (d : CZ L a (.list ps) L') : Hp X H Z L' s ∧ Aj (dz L' Z) s.heap (.lst ps) (.ref a) ∧ BF L L' s s := by
 have sub : ∀ b, b ∈ dom L' → b ∈ dom L := fun b hb => by refine Ar (fun y hy e => ?_) <| List.mem_map.mp hb; exact List.mem_map.mpr ⟨y, d.sub y hy, e⟩
 have subz : ∀ b, b ∈ dz L' Z → b ∈ dz L Z := fun b hb => (List.mem_append.mp hb).elim (fun q => mem_append_left _ (sub b q)) (mem_append_right _)
 have kp : Kp (dz L Z) (dz L' Z) s.heap s.heap := AP subz
 refine ⟨⟨P.keep, P.os, P.bare, fun x hx => BP.kp kp (fun _ e => e) (P.led x (d.sub x hx)), (d.nodup P.nodup).1, fun b hb => P.fresh b (subz b hb), fun b hb => P.apart b (sub b hb), P.zone, P.held.kp kp⟩, ?_, ⟨fun b o e n => ⟨e, fun hm => n (sub b hm)⟩, fun _ _ e => e, fun b o e => ⟨o, e⟩⟩⟩
 refine B8 (fun vs n ho V => ?_) <| P.led _ d.mem
 refine Exists.intro a ⟨vs, n, rfl, ⟨ho, fun hm => ?_⟩, V.kp kp⟩
 rcases List.mem_append.mp hm with q | q
 ·exact (d.nodup P.nodup).2 q
 ·exact P.apart a (AX d.mem) q
theorem Be.freeze (x : Be X H Z L s (fun p L1 => ∃ a ps L2, p = .ref a ∧ CZ L1 a (.list ps) L2 ∧ Q (.lst ps) L2) v s') : Be X H Z L s Q v s' := by
 obtain ⟨p, L1, ⟨a, ps, L2, rfl, d, q⟩, P, V, e⟩ := x
 rw [Cw V]
 refine CP (fun P2 V2 e2 => ?_) <| P.freeze d
 exact ⟨_, L2, q, P2, V2, e.trans e2⟩
abbrev KTu (Q : QE) : List PV → Ai → Prop := fun ps L => ps.length ≤ sizeLine ∧ Q (.tup ps) L
abbrev KLi (Q : QE) : List PV → Ai → Prop := fun ps L => ps.length ≤ sizeLine ∧ ∀ a, Q (.ref a) ((a, .list ps) :: L)
abbrev KLf (Q : QE) : List PV → Ai → Prop := fun ps L => ps.length ≤ sizeLine ∧ Q (.lst ps) L
abbrev KFr (Q : QE) : QE := fun p L => ∃ a ps L2, p = .ref a ∧ CZ L a (.list ps) L2 ∧ Q (.lst ps) L2
theorem WE.freeze {t : Sem Value} (h : WE X A env nm m t L (KFr Q)) : WE X A env nm m t L Q := fun Z s E F =>
 Ap (h Z s E F) fun _ _ h1 => h1.freeze
theorem MS {x1} (h : WEs X A env nm m (spliced (backTo pos (starEach elts env))) L (KTu Q)) : WE X A env nm m (eval (.Tuple elts x1 pos) env) L Q := fun Z s E F =>
 wpAny_Tuple_spliced (wvs (h Z s E F) fun vs s1 ps L1 o2 P1 V1 e1 => by
  have k := A9 s1 { cls := .type "tuple", data := .seq vs.toArray } s1.toks
  refine ⟨by rw [V1.length]; exact o2.1, .tup ps, L1, o2.2, P1.keeps k, ?_, e1.trans (.keeps k)⟩
  exact Exists.intro _ ⟨vs, 0, rfl, ⟨get?_push_size _ rfl, P1.new (le_refl _)⟩, V1.ext (.keeps k)⟩)
theorem Ci (h : WEs X A env nm m (spliced (backTo pos (starEach elts env))) L (KLi Q)) : WE X A env nm m (eval (.List elts pos) env) L Q := fun Z s E F =>
 wpAny_List_spliced (wvs (h Z s E F) fun vs s1 ps L1 o2 P1 V1 e1 => by
  have k := A9 s1 { cls := .type "list", data := .seq vs.toArray } s1.toks
  refine Av (fun P2 e2 => ?_) <| P1.alloc (ps := ps) k (le_refl _) (get?_push_size _ rfl) V1
  exact ⟨by rw [V1.length]; exact o2.1, .ref _, _, o2.2 s1.heap.objs.size, P2, E3 _, e1.trans e2⟩)
theorem DP (h : WEs X A env nm m (spliced (backTo pos (starEach elts env))) L (KLf Q)) : WE X A env nm m (eval (.List elts pos) env) L Q :=
 .freeze (Ci (h.mono fun ps L1 ⟨hz, q⟩ => ⟨hz, fun a => ⟨a, ps, L1, rfl, .here, q⟩⟩))
structure Acc (α : Type) where
 rel : List Addr → Heap → Addr → α → Prop
 kp : ∀ {D D' : List Addr} {h h' : Heap} {a : Addr} {x : α}, rel D h a x → Kp D D' h h' → (∀ o, h.get? a = some o → h'.get? a = some o) → rel D' h' a x
 live : ∀ {D : List Addr} {h : Heap} {a : Addr} {x : α}, rel D h a x → ∃ o, h.get? a = some o
def Cq : Acc (List PV) where
 rel := fun D h a ps => ∃ vs n, h.get? a = some (Bh vs n) ∧ Ae D h ps vs
 kp := fun ⟨vs, n, e, V⟩ k s => ⟨vs, n, s _ e, V.kp k⟩
 live := fun ⟨vs, n, e, V⟩ => ⟨_, e⟩
structure E6 (env : Env) (nm : Nm) (D : Addr) (L L' : Ai) (s s' : Shared) : Prop where
 heap : ∀ a o, s.heap.get? a = some o → a ∉ dom L → a ≠ D → a ≠ env.locals → (∀ x, (x, NameKind.cell) ∈ nm → env.cells.lookup x ≠ some a) → s'.heap.get? a = some o ∧ a ∉ dom L'
 gens : ∀ (g : Nat) (x : GenState), s.gens[g]? = some x → s'.gens[g]? = some x
 live : ∀ a o, s.heap.get? a = some o → ∃ o', s'.heap.get? a = some o'
theorem E6.trans {D : Addr} (x : E6 env nm D L L' s s') (y : E6 env nm D L' L'' s' s'') : E6 env nm D L L'' s s'' :=
 ⟨fun a o e n nd nl nc => let ⟨e', n'⟩ := x.heap a o e n nd nl nc; y.heap a o e' n' nd nl nc, fun g z e => y.gens g z (x.gens g z e), fun a o e => let ⟨o', e'⟩ := x.live a o e; y.live a o' e'⟩
theorem B9.toD (x : B9 env nm L L' s s') (D : Addr) : E6 env nm D L L' s s' := ⟨fun a o e n _ nl nc => x.heap a o e n nl nc, x.gens, x.live⟩
theorem E6.nx {D : Addr} (x : E6 env nm D L L1 s s1) (N : Nx wr gn s1 s2) (hz : ∀ a ∈ wr, s.heap.get? a = none) (hg : ∀ g ∈ gn, s.gens[g]? = none) : E6 env nm D L L1 s s2 := by
 have hw : ∀ a o, s.heap.get? a = some o → a ∉ wr := fun a o e q => by rw [hz a q] at e; cases e
 refine ⟨fun a o e n nd nl nc => ?_, fun g z e => ?_, fun a o e => ?_⟩
 ·have := x.heap a o e n nd nl nc
  exact ⟨N.1 a o (hw a o e) this.1, this.2⟩
 ·exact N.2 g z (fun q => by rw [hg g q] at e; cases e) (x.gens g z e)
 ·refine Ao (fun o' e' => ?_) <| x.live a o e
  exact ⟨o', N.1 a o' (hw a o e) e'⟩
structure Cf {α : Type} (R : Acc α) (X : Cx) (H : Option Value) (Z : List Addr) (env : Env) (nm : Nm) (m : AU) (L : Ai) (D : Addr) (x : α) (s : Shared) : Prop where
 fm : Fm X H Z env nm m L s
 rel : R.rel (dz L Z) s.heap D x
 inz : D ∈ Z
 ne : D ≠ env.locals
 nc : ∀ y, env.cells.lookup y ≠ some D
section
variable {R : Acc α} {D : Addr} {x : α}
theorem Cf.step (C : Cf R X H Z env nm m L D x s) (F : Fm X H Z env nm m' L' s') (e : B9 env nm L L' s s') : Cf R X H Z env nm m' L' D x s' :=
 ⟨F, R.kp C.rel (e.kp C.fm) fun o ho => (e.heap D o ho (fun q => C.fm.hp.apart D q C.inz) C.ne fun y _ q => C.nc y q).1, C.inz, C.ne, C.nc⟩
theorem Cf.stepE (C : Cf R X H Z env nm m L D x s) (e : BF L L' s s') (P : Hp X H Z L' s') : Cf R X H Z env nm m L' D x s' := C.step (C.fm.ext e P) e.toS
end
inductive OZ {α9 : Type} (R9 : Acc α9) (X9 : Cx) (H9 : Option Value) (Z9 : List Addr) (env9 : Env) (nm9 : Nm) (L9 : Ai) (D9 : Addr) (s9 : Shared) (Q9 : AU → Ai → α9 → Prop) (u9 : Unit) (s'9 : Shared) : Prop
 | mk (m' : AU) (L' : Ai) (x' : α9) (q : Q9 m' L' x') (C : Cf R9 X9 H9 Z9 env9 nm9 m' L' D9 x' s'9) (e : E6 env9 nm9 D9 L9 L' s9 s'9)
inductive CoI {α9 : Type} (R9 : Acc α9) (X9 : Cx) (H9 : Option Value) (env9 : Env) (nm9 : Nm) (Z9 : List Addr) (L₀9 : Ai) (D9 : Addr) (s₀9 : Shared) (n9 : Nat) (J : Nat → AU → Ai → α9 → Prop) (St9 : Nat → List Addr → List Addr → Shared → Prop) (k9 : Nat) (s'9 : Shared) : Prop
 | mk (i : Nat) (m' : AU) (L' : Ai) (x' : α9) (Zc pv : List Addr) (hJ : J i m' L' x') (C : Cf R9 X9 H9 Zc env9 nm9 m' L' D9 x' s'9) (st : St9 i pv (dz L' Zc) s'9) (h1 : ∀ b ∈ pv, b ∈ Zc) (h2 : ∀ b ∈ pv, s₀9.heap.get? b = none) (h3 : env9.locals ∉ pv) (h4 : ∀ x c, env9.cells.lookup x = some c → c ∉ pv) (h5 : D9 ∉ pv)
   (h6 : ∀ b ∈ Z9, b ∈ Zc) (hle : i ≤ n9) (hk : k9 = n9 + 1 - i) (e : E6 env9 nm9 D9 L₀9 L' s₀9 s'9)
section
variable (R : Acc α) (X : Cx) (A : Around) (env : Env) (nm : Nm)
def WEm (m : AU) (t : Addr → Sem Unit) (x : α) (L : Ai) (Q : AU → Ai → α → Prop) : Prop :=
 ∀ Z s E D, Cf R X A.handled Z env nm m L D x s → wpAny X.M A (t D) (OZ R X A.handled Z env nm L D s Q) E s
def WTs (m : AU) (ifs : List PySem.Expr) (L : Ai) (Qt Qf : Ai → Prop) : Prop :=
 WT X A env nm m (forIn ifs true fun c r => if r = true then do let ok ← isTrue c env (eval c env); pure (ForInStep.yield ok) else pure (ForInStep.yield r)) L Qt Qf
end
theorem D6 (h : Qt L) : WTs X A env nm m [] L Qt Qf := fun Z s E F => wpAny_tests_nil (.keeps F.hp (Ag s) (.inl ⟨rfl, h⟩))
theorem FP {c : PySem.Expr} (h : WT X A env nm m (isTrue c env (eval c env)) L Qt Qf) : WTs X A env nm m [c] L Qt Qf := fun Z s E F => wpAny_tests_one (h Z s E F)
theorem Cf.setList {D : Addr} {acc' : List PV} (C : Cf Cq X H Z env nm m L D acc s) (hs : Heap.SameBut D s.heap h') (ho : h'.get? D = some (Bh vs' n)) (V : Ae (dz L Z) s.heap acc' vs') :
  Cf Cq X H Z env nm m L D acc' { s with heap := h' } ∧ E6 env nm D L L s { s with heap := h' } := by
 refine Av (fun P kp => ?_) <| C.fm.write (tk := s.toks) C.inz hs ⟨_, ho⟩
 have F := C.fm
 have lk : ∀ o, s.heap.get? env.locals = some o → h'.get? env.locals = some o := fun o e => (hs.2 _ (Ne.symm C.ne)).trans e
 have ck : ∀ y c o, env.cells.lookup y = some c → s.heap.get? c = some o → h'.get? c = some o := fun y c o e ho => (hs.2 c (fun q => C.nc y (q ▸ e))).trans ho
 refine ⟨⟨⟨P, F.ok, fun y ky q hm => (F.vals y ky q hm).kp kp lk fun c o e he => ck y c o e he, ?_, F.lz, fun y c e => ?_⟩, ⟨_, n, ho, V.kp kp⟩, C.inz, C.ne, C.nc⟩, fun a o e n nd _ _ => ⟨(hs.2 a nd).trans e, n⟩, fun _ _ e => e, fun a o e => ?_⟩
 ·refine DD (fun mv o es ep ho r => ?_) <| F.nsx; exact ⟨mv, o, es, ep, lk o ho, r⟩
 ·obtain ⟨hz, hne, v', o, ho, hd⟩ := F.cz y c e
  exact ⟨hz, hne, v', o, ck y c o e ho, hd⟩
 ·by_cases q : a = D
  ·exact ⟨_, q ▸ ho⟩
  ·exact ⟨o, (hs.2 a q).trans e⟩
theorem Cp {Q : AU → Ai → List PV → Prop} (h : WE X A env nm m (eval elt env) L fun p L1 => acc.length ≤ sizeLine ∧ Q m L1 (acc ++ [p])) :
  WEm Cq X A env nm m (fun D => do let _ ← call (.builtin "list.append") [.ref D, ← eval elt env]) acc L Q := fun Z s E D C => by
 refine wpAny_bind (wv (h Z s E C.fm) fun v s1 p L1 o2 P1 V1 e1 => ?_)
 obtain ⟨hz, q⟩ := o2
 have C1 := C.stepE e1 P1
 refine B8 (fun vs n ho Vs => ?_) <| C1.rel
 refine wpAny_bind (wpAny_list_append_plain ⟨n, ho⟩ (fun h' hl hs => wpAny_pure ?_) (by rw [size_toArray, Vs.length]; exact hz))
 refine Ao (fun n' ho' => ?_) <| hl
 have ho2 : h'.get? D = some (Bh (vs ++ [v]) n') := by rw [ho']; simp
 refine Av (fun C2 e2 => ?_) <| C1.setList hs ho2 (acc' := acc ++ [p]) (Vs.append (.cons V1 .nil))
 exact ⟨m, L1, _, q, C2, (e1.toS.toD D).trans e2⟩
noncomputable def Dj (g : Comprehension) (inner : Sem Unit) (e : PySem.Expr) (depth : Nat) (it acc : Value) (env : Env) : Sem Fin := do
 standAt g.iter.pos
 match ← pyNext it with
 | none => pure (.done .next)
 | some v =>
  letOwnedTupleGo g.target it v
  assign g.target env v
  let ok ← (forIn g.ifs true fun c r => if r = true then do let ok ← isTrue c env (eval c env); pure (ForInStep.yield ok) else pure (ForInStep.yield r))
  if ok then inner
  again (.compLoop e depth it acc env)
theorem Hn {R : Acc α} {depth : Nat} {g : Comprehension} {inner : Addr → Sem Unit} {Ok : Ai → Prop} {St : Nat → List Addr → List Addr → Shared → Prop}
  (hund : ∀ it acc, A.under (.compLoop e depth it acc env) = A) (hden : ∀ it acc, X.M.den (.compLoop e depth it acc env) = (compTurn e depth it acc env).onRaise fun x => do noteFrame x env; theTreesLotGoes x) (hturn : ∀ it D, compTurn e depth it (.ref D) env = Dj g (inner D) e depth it (.ref D) env) (T : DB X A.handled (dd A) tg I gn ps Ok St) (ht : tg g.target)
  (J : Nat → AU → Ai → α → Prop)
  (hstep : ∀ i p m' L' x, ps[i]? = some p → J i m' L' x → Ok L' ∧ WAs X A env nm m' (assign g.target env) p L' fun m2 L2 => WTs X A env nm m2 g.ifs L2 (fun L3 => WEm R X A env nm m2 inner x L3 (J (i + 1))) fun L3 => J (i + 1) m2 L3 x)
  (hend : ∀ m' L' x, J ps.length m' L' x → Ok L') {D : Addr} {x : α} (hJ0 : J 0 m L x) (C : Cf R X A.handled (wr ++ Z) env nm m L D x s) (st : St 0 wr (dz L (wr ++ Z)) s) (hz : ∀ a ∈ wr, s₀.heap.get? a = none) (hg : ∀ g ∈ gn, s₀.gens[g]? = none)
  (hlw : env.locals ∉ wr) (hcw : ∀ x c, env.cells.lookup x = some c → c ∉ wr) (hDw : D ∉ wr) (e₀ : E6 env nm D L₀ L s₀ s)
  (hR : ∀ m' L' x' s' Zc, J ps.length m' L' x' → Cf R X A.handled Zc env nm m' L' D x' s' → (∀ b ∈ Z, b ∈ Zc) → E6 env nm D L₀ L' s₀ s' → Rs (.ok .next) s') :
  codeAny X.M A (.compLoop e depth (.ref I) (.ref D) env) Rs s := by
 refine codeAny_loop rfl (CoI R X A.handled env nm Z L₀ D s₀ ps.length J St) (fun k s3 hI => ?_) (ps.length + 1)
  ⟨0, m, L, x, wr ++ Z, wr, hJ0, C, st, fun b hb => mem_append_left _ hb, hz, hlw, hcw, hDw, fun b hb => mem_append_right _ hb, zero_le _, rfl, e₀⟩
 obtain ⟨i, m', L', x', Zc, pv, hJ, C3, st3, hpz, hpf, hlp, hcp, hDp, hZc, hle, rfl, e3⟩ := hI
 rw [hund, hden]
 refine wpAny_noted ?_
 rw [hturn]
 unfold Dj
 refine wpAny_bind (wpAny_standAt (wpAny_bind ?_))
 by_cases hlt : i < ps.length
 ·refine Av (fun ok ha => ?_) <| hstep i ps[i] m' L' x' (getElem?_eq_getElem hlt) hJ
  refine Ap (T.item A i ps[i] pv Zc L' s3 _ (notedBy X.M A env fun e s' => Rs (.error e) s') g.target (Lp X A.handled Zc L' (St (i + 1)) pv gn s3 ps[i])
   rfl (AR _) ht (getElem?_eq_getElem hlt) ok C3.fm.hp hpz st3 fun v s4 Zn pv' a b c d e f => ⟨Zn, pv', a, b, c, d, e, f⟩) fun r s4 h4 => ?_
  obtain ⟨v, rfl, h4⟩ := h4
  refine wpAny_bind (Of h4 fun _ s5 Zn pv' V5 P5 st5 hpv hZn N5 => ?_)
  refine Av (fun F5 kp5 => ?_) <| C3.fm.nxg N5 hpz hZn P5 hlp hcp
  have C5 : Cf R X A.handled (Zn ++ Zc) env nm m' L' D x' s5 := ⟨F5, R.kp C3.rel kp5 fun o ho => N5.1 D o hDp ho, mem_append_right _ C3.inz, C3.ne, C3.nc⟩
  have e5 := e3.nx N5 hpf hg
  have hpf' : ∀ b ∈ pv', s₀.heap.get? b = none := fun b hb => by
   rcases hpv b hb with q | q
   ·exact hpf b q
   ·cases e : s₀.heap.get? b with
    | none => rfl
    | some o => refine Ao (fun o' e' => ?_) <| e3.live b o e; rw [hZn b q] at e'; cases e'
  have hpz' : ∀ b ∈ pv', b ∈ Zn ++ Zc := fun b hb => (hpv b hb).elim (fun q => mem_append_right _ (hpz b q)) (mem_append_left _)
  have hZc' : ∀ b ∈ Z, b ∈ Zn ++ Zc := fun b hb => mem_append_right _ (hZc b hb)
  have old : ∀ b o, s3.heap.get? b = some o → b ∉ pv → b ∉ pv' := fun b o e n q => by
   rcases hpv b q with q | q
   ·exact n q
   ·rw [hZn b q] at e; cases e
  have hlp' : env.locals ∉ pv' := by refine DD (fun mv o _ _ e _ => ?_) <| C3.fm.nsx; exact old _ o e hlp
  have hcp' : ∀ x c, env.cells.lookup x = some c → c ∉ pv' := fun x c e => by obtain ⟨_, _, v, o, e', _⟩ := C3.fm.cz x c e; exact old c o e' (hcp x c e)
  have hDp' : D ∉ pv' := by refine Ao (fun o e => ?_) <| R.live C3.rel; exact old D o e hDp
  refine wpAny_bind (wa (ha (Zn ++ Zc) s5 _ v F5 V5) fun _ s6 m6 L6 hb F6 e6 => ?_)
  have C6 := C5.step F6 e6
  refine wpAny_bind (wb (hb (Zn ++ Zc) s6 _ F6) fun b s7 L7 hq P7 e7 => ?_)
  have C7 := C6.stepE e7 P7
  have e57 := (e6.trans e7.toS).toD (D := D)
  have stk : ∀ {s8 : Shared} {L8 : Ai}, E6 env nm D L' L8 s5 s8 → Hp X A.handled (Zn ++ Zc) L8 s8 → St (i + 1) pv' (dz L8 (Zn ++ Zc)) s8 := fun {s8 L8} e58 P8 => by
   refine T.mono (i + 1) pv' _ _ s5 s8 st5 (fun a o e n => ?_) (fun b hb o e => ?_) e58.gens
   ·have hnz : a ∉ Zn ++ Zc := fun hz => n (mem_append_right _ hz)
    have := e58.heap a o e (fun hm => n (mem_append_left _ hm)) (fun q => hnz (q ▸ C5.inz)) (fun q => hnz (q ▸ F5.lz)) (fun y _ q => hnz (F5.cz y a q).1)
    exact ⟨this.1, fun hm => (List.mem_append.mp hm).elim this.2 hnz⟩
   ·exact (e58.heap b o e (fun q => F5.hp.apart b q (hpz' b hb)) (fun q => hDp' (q ▸ hb)) (fun q => hlp' (q ▸ hb)) fun x _ q => hcp' x b q hb).1
  rcases hq with ⟨rfl, hq⟩ | ⟨rfl, hq⟩
  ·refine wpAny_bind (Ap (hq (Zn ++ Zc) s7 _ D C7) fun _ s8 o8 => ?_)
   obtain ⟨m8, L8, x8, hJ8, C8, e8⟩ := o8
   have e58 := e57.trans e8
   exact wpAny_pure ⟨rfl, ps.length + 1 - (i + 1), by exact B7 0x1680848a0256014024500244810010422 rt (sub_add_cancel (Aa 0x489004880012800421 rt hle)) (sub_add_cancel (Aa 0x91204012800421 rt hle)), i + 1, m8, L8, x8, Zn ++ Zc, pv', hJ8, C8, stk e58 C8.fm.hp, hpz', hpf', hlp', hcp', hDp', hZc', hlt, rfl, e5.trans e58⟩
  ·exact wpAny_pure ⟨rfl, ps.length + 1 - (i + 1), by exact B7 0x1680848a0256014024500244810010422 rt (sub_add_cancel (Aa 0x489004880012800421 rt hle)) (sub_add_cancel (Aa 0x91204012800421 rt hle)), i + 1, m6, L7, x', Zn ++ Zc, pv', hq, C7, stk e57 P7, hpz', hpf', hlp', hcp', hDp', hZc', hlt, rfl, e5.trans e57⟩
 ·have : i = ps.length := by exact le_antisymm (Aa 0x94012800421 rt hle) (Aa 291380514718753 rt hlt)
  subst this
  refine T.done A pv Zc L' s3 _ _ rfl (AR _) (hend m' L' x' hJ) C3.fm.hp hpz st3 fun s4 P4 N4 => ?_
  refine Av (fun F4 kp4 => ?_) <| C3.fm.nxg (Zn := []) N4 hpz (fun b hb => by cases hb) P4 hlp hcp
  refine wpAny_pure (hR m' L' x' s4 Zc hJ ⟨F4, R.kp C3.rel kp4 fun o ho => N4.1 D o hDp ho, C3.inz, C3.ne, C3.nc⟩ hZc (e3.nx N4 hpf hg))
theorem KW (A : Around) : A.mark none = A := by cases A; rfl
theorem Gi {depth : Nat} {g : Comprehension} {it acc : Value} (hund : A.under (.compStart e depth it acc env) = A)
  (hden : X.M.den (.compStart e depth it acc env) = (compStart e depth it acc env).onRaise fun x => do noteFrame x env; standAt theWindowsPlace) (hq : (Code.compLoop e depth it acc env).quiet = true)
  (hg : (clausesOf e)[depth]? = some g) (ha : g.is_async = 0) (h : codeAny X.M A (.compLoop e depth it acc env) Rs s)
  (hi : wpAny X.M A (pyIter it) (fun it' s' => it' = it ∧ s' = s) (notedBy X.M A env fun x s' => Rs (.error x) s') s) : codeAny X.M A (.compStart e depth it acc env) Rs s := by
 refine codeAny_of_tree ?_
 rw [hund, hden]
 refine wpAny_notedAt ?_
 unfold compStart
 rw [hg]
 simp only [Option.elim, ha, bne_self_eq_false, false_eq_true, if_false]
 refine wpAny_bind (wpAny_askSetting (wpAny_ite ?_))
 split
 ·exact wpAny_bind (wpAny_pure (wpAny_pure ⟨hq, h⟩))
 ·refine wpAny_bind (wpAny_rule (wpAny_bind (wpAny_standAt (wpAny_bind (wpAny_mono hi (fun it' s' h' => ?_) fun _ _ x => x)))))
  refine Av (fun e₀0 e₀1 => ?_) <| h'; obtain rfl := e₀0; obtain rfl := e₀1
  exact wpAny_pure ⟨hq, h⟩
theorem MT {R : Acc α} {depth : Nat} {g : Comprehension} {inner : Addr → Sem Unit} {x : α} {Q : AU → Ai → α → Prop}
  (hund : ∀ it acc, A.under (.compLoop e depth it acc env) = A) (hden : ∀ it acc, X.M.den (.compLoop e depth it acc env) = (compTurn e depth it acc env).onRaise fun x => do noteFrame x env; theTreesLotGoes x)
  (hund' : ∀ it acc, A.under (.compStart e depth it acc env) = A) (hden' : ∀ it acc, X.M.den (.compStart e depth it acc env) = (compStart e depth it acc env).onRaise fun x => do noteFrame x env; standAt theWindowsPlace)
  (hq : ∀ it acc, (Code.compLoop e depth it acc env).quiet = true) (hg : (clausesOf e)[depth]? = some g) (ha : g.is_async = 0) (hs : ∀ x, foldedSetIterable g.iter env x = pure x)
  (hturn : ∀ it D, compTurn e depth it (.ref D) env = Dj g (inner D) e depth it (.ref D) env) (ht : tg g.target)
  (h : WI X A env nm m (eval g.iter env) L tg fun ps Ok L1 => ∃ J : Nat → AU → Ai → α → Prop, J 0 m L1 x ∧
   (∀ i p m' L' x, ps[i]? = some p → J i m' L' x → Ok L' ∧ WAs X A env nm m' (assign g.target env) p L' fun m2 L2 => WTs X A env nm m2 g.ifs L2 (fun L3 => WEm R X A env nm m2 inner x L3 (J (i + 1))) fun L3 => J (i + 1) m2 L3 x) ∧
   (∀ m' L' x, J ps.length m' L' x → Ok L' ∧ Q m' L' x)) :
  WEm R X A env nm m (fun D => do
   let x ← eval g.iter env
   standAt g.iter.pos
   let x ← foldedSetIterable g.iter env x
   let _ ← runOwn (.compStart e depth (← holding [x] (pyIter x)) (.ref D) env) env) x L Q := fun Z s E D C => by
 refine wpAny_bind (Ap (h Z s E C.fm) fun v s1 h1 => ?_)
 refine CQ (fun ps Ok L1 o₀3 hi => ?_) <| h1; obtain ⟨J, hJ0, hstep, hend⟩ := o₀3
 refine wpAny_bind (wpAny_standAt ?_)
 rw [hs]
 refine wpAny_bind (wpAny_pure (wpAny_bind (wpAny_holding ?_)))
 refine hi A E _ rfl (AR _) fun I wr gn St s2 T st P2 e2 hz hg2 => ?_
 have hlw : env.locals ∉ wr := fun q => by refine DD (fun mv o _ _ e _ => ?_) <| C.fm.nsx; rw [hz _ q] at e; cases e
 have hcw : ∀ x c, env.cells.lookup x = some c → c ∉ wr := fun x c e q => by obtain ⟨_, _, v, o, e', _⟩ := C.fm.cz x c e; rw [hz _ q] at e'; cases e'
 have hDw : D ∉ wr := fun q => by refine Ao (fun o e => ?_) <| R.live C.rel; rw [hz _ q] at e; cases e
 have C2 : Cf R X A.handled (wr ++ Z) env nm m L1 D x s2 := ⟨C.fm.grow e2 hz P2, R.kp C.rel (Ka e2 hz) fun o ho => (e2.heap D o ho fun q => C.fm.hp.apart D q C.inz).1, mem_append_right _ C.inz, C.ne, C.nc⟩
 refine wpAny_bind (wpAny_runOwn ?_)
 rw [KW]
 refine Gi (hund' _ _) (hden' _ _) (hq _ _) hg ha ?_ (T.self A 0 wr _ s2 _ _ st ⟨rfl, rfl⟩)
 refine Hn hund hden hturn T ht J hstep (fun m' L' x' hj => (hend m' L' x' hj).1) hJ0 C2 st hz hg2 hlw hcw hDw (e2.toS.toD D) fun m' L' x' s' Zc hj C' hZc e' => ?_
 refine wpAny_pure ⟨m', L', x', (hend m' L' x' hj).2, ⟨C.fm.sub C'.fm hZc, R.kp C'.rel (AP (Gl hZc)) fun _ e => e, C.inz, C.ne, C.nc⟩, e'⟩
noncomputable def CS (env : Env) : Nm → List (Str × Addr) → List (Str × Addr)
 | [], acc => acc
 | (x, .free) :: r, acc => CS env r ((x, (env.cells.lookup x).getD 0) :: acc)
 | (_, .local) :: r, acc => CS env r acc
 | (_, .cell) :: r, acc => CS env r acc
 | (_, .globalImplicit) :: r, acc => CS env r acc
 | (_, .globalExplicit) :: r, acc => CS env r acc
theorem FB (h : ∀ x, (x, NameKind.free) ∈ scope.names → ∃ c, env.cells.lookup x = some c) : closureFor scope env = pure (CS env scope.names []) := by
 have key : ∀ (ns : Nm) (acc : List (Str × Addr)), (∀ x, (x, NameKind.free) ∈ ns → ∃ c, env.cells.lookup x = some c) →
   (forIn ns acc (fun (x : Str × NameKind) r => if (x.2 == NameKind.free) = true then cellOf env x.1 >>= fun c => pure (ForInStep.yield ((x.1, c) :: r)) else pure (ForInStep.yield r)) : Sem (List (Str × Addr))) = pure (CS env ns acc) := by
  intro ns
  induction ns with
  | nil => intro acc _; rfl
  | cons y r ih =>
   obtain ⟨x, k⟩ := y
   intro acc h
   rw [List.forIn_cons]
   have ih' := fun acc => ih acc (fun z hz => h z (.tail _ hz))
   cases k with
   | free =>
    refine Ao (fun c hc => ?_) <| h x (.head _)
    have e1 : cellOf env x = pure c := by unfold cellOf; rw [hc]
    simp only [beq_self_eq_true, if_true, e1, pure_bind, CS, hc, getD_some]
    exact ih' _
   | «local» => simp only [show (NameKind.local == NameKind.free) = false from rfl, false_eq_true, if_false, pure_bind, CS]; exact ih' _
   | cell => simp only [show (NameKind.cell == NameKind.free) = false from rfl, false_eq_true, if_false, pure_bind, CS]; exact ih' _
   | globalImplicit => simp only [show (NameKind.globalImplicit == NameKind.free) = false from rfl, false_eq_true, if_false, pure_bind, CS]; exact ih' _
   | globalExplicit => simp only [show (NameKind.globalExplicit == NameKind.free) = false from rfl, false_eq_true, if_false, pure_bind, CS]; exact ih' _
 show ((forIn scope.names [] (fun (x : Str × NameKind) r => if (x.2 == NameKind.free) = true then cellOf env x.1 >>= fun c => pure (ForInStep.yield ((x.1, c) :: r)) else pure (ForInStep.yield r)) : Sem (List (Str × Addr))) >>= fun cs => pure cs) = _
 rw [key _ _ h, pure_bind]
theorem Ge : ∀ {ns : Nm} {acc : List (Str × Addr)} {x : Str} {c : Addr}, (x, c) ∈ CS env ns acc → (x, c) ∈ acc ∨ ((x, NameKind.free) ∈ ns ∧ c = (env.cells.lookup x).getD 0)
 | [], acc, x, c, h => .inl h
 | (y, k) :: r, acc, x, c, h => by
  cases k with
  | free =>
   rcases Ge (ns := r) h with q | ⟨q, e⟩
   ·rcases List.mem_cons.mp q with q | q
    ·cases q; exact .inr ⟨.head _, rfl⟩
    ·exact .inl q
   ·exact .inr ⟨.tail _ q, e⟩
  | _ =>
   rcases Ge (ns := r) h with q | ⟨q, e⟩
   ·exact .inl q
   ·exact .inr ⟨.tail _ q, e⟩
theorem Gd : ∀ {ns : Nm} {acc : List (Str × Addr)} {x : Str}, (x, NameKind.free) ∈ ns ∨ (∃ c, (x, c) ∈ acc) → ∃ c, (x, c) ∈ CS env ns acc
 | [], acc, x, h => h.elim (fun q => by cases q) id
 | (y, k) :: r, acc, x, h => by
  cases k with
  | free =>
   refine Gd (ns := r) ?_
   rcases h with q | ⟨c, q⟩
   ·rcases List.mem_cons.mp q with q | q
    ·cases q; exact .inr ⟨_, .head _⟩
    ·exact .inl q
   ·exact .inr ⟨c, .tail _ q⟩
  | _ =>
   refine Gd (ns := r) (h.imp (fun q => ?_) id)
   rcases List.mem_cons.mp q with q | q
   ·cases q
   ·exact q
theorem GW {l : List (Str × α)} {c : α} (h : (x, c) ∈ l) : ∃ c', l.lookup x = some c' := by
 cases e : l.lookup x with
 | some c' => exact ⟨c', rfl⟩
 | none => have := List.lookup_eq_none_iff.mp e _ h; simp at this
theorem EB {c : Addr} (h : (CS env ns []).lookup x = some c) : (x, NameKind.free) ∈ ns ∧ c = (env.cells.lookup x).getD 0 := by
 rcases Ge (mem_of_lookup h) with q | q
 ·cases q
 ·exact q
theorem Jm {c : Addr} (hm : (x, NameKind.free) ∈ ns) (he : env.cells.lookup x = some c) : (CS env ns []).lookup x = some c := by
 refine Ao (fun c' h' => ?_) <| Gd (env := env) (acc := []) (.inl hm)
 refine Ao (fun c2 h2 => ?_) <| GW h'
 rw [h2, (EB h2).2, he]; rfl
inductive Cr (X9 : Cx) (nm9 : Nm) (m9 : AU) : Nm → AU → Prop
 | nil : Cr X9 nm9 m9 [] []
 | loc {x ns m' : _} : Cr X9 nm9 m9 ns m' → Cr X9 nm9 m9 ((x, .local) :: ns) (none :: m')
 | fre {x k p ns m' : _} : Lk nm9 m9 x k p → (k = .cell ∨ k = .free) → Cr X9 nm9 m9 ns m' → Cr X9 nm9 m9 ((x, .free) :: ns) (some p :: m')
 | glob {x v ns m' : _} : Da X9 x v → Cr X9 nm9 m9 ns m' → Cr X9 nm9 m9 ((x, .globalImplicit) :: ns) (some (.val v) :: m')
theorem Cr.inv (I : Cr X nm m ns m') : ∀ x k p, ((x, k), some p) ∈ ns.zip m' → (k = .free ∧ ∃ k', Lk nm m x k' p ∧ (k' = .cell ∨ k' = .free)) ∨ (k = .globalImplicit ∧ ∃ v, p = .val v ∧ Da X x v) := by
 induction I with
 | nil => intro x k p h; cases h
 | loc _ ih =>
  intro x k p h; rcases List.mem_cons.mp h with e | h
  ·cases e
  ·exact ih x k p h
 | fre h1 h2 _ ih =>
  intro x k p h; rcases List.mem_cons.mp h with e | h
  ·cases e; exact .inl ⟨rfl, _, h1, h2⟩
  ·exact ih x k p h
 | glob h1 _ ih =>
  intro x k p h; rcases List.mem_cons.mp h with e | h
  ·cases e; exact .inr ⟨rfl, _, rfl, h1⟩
  ·exact ih x k p h
theorem Cr.kinds (I : Cr X nm m ns m') : ∀ x k, (x, k) ∈ ns → k ≠ .cell ∧ (k = .free → ∃ k' p, Lk nm m x k' p ∧ (k' = .cell ∨ k' = .free)) := by
 induction I with
 | nil => intro x k h; cases h
 | loc _ ih =>
  intro x k h; rcases List.mem_cons.mp h with e | h
  ·cases e; exact ⟨by decide, fun e => by cases e⟩
  ·exact ih x k h
 | fre h1 h2 _ ih =>
  intro x k h; rcases List.mem_cons.mp h with e | h
  ·cases e; exact ⟨by decide, fun _ => ⟨_, _, h1, h2⟩⟩
  ·exact ih x k h
 | glob h1 _ ih =>
  intro x k h; rcases List.mem_cons.mp h with e | h
  ·cases e; exact ⟨by decide, fun e => by cases e⟩
  ·exact ih x k h
theorem Hp.perm (h : ∀ a, a ∈ Z ↔ a ∈ Z') (P : Hp X H Z L s) : Hp X H Z' L s := by
 have hd : ∀ a, a ∈ dz L Z ↔ a ∈ dz L Z' := fun a => by unfold dz; rw [List.mem_append, List.mem_append, h a]
 have kp : Kp (dz L Z) (dz L Z') s.heap s.heap := AP fun a hm => (hd a).mpr hm
 exact ⟨P.keep, P.os, P.bare, fun x hx => BP.kp kp (fun _ e => e) (P.led x hx), P.nodup, fun a ha => P.fresh a ((hd a).mpr ha), fun a ha hz => P.apart a ha ((h a).mpr hz), fun a ha => P.zone a ((h a).mpr ha), P.held.kp kp⟩
theorem Jr (F : Fm X H Z env nm m L s) (hsc : Eg scope) (I : Cr X nm m scope.names m₀) : A8 (compEnvC scope (CS env scope.names []) C env) scope.names := by
 have cell : ∀ x, (x, NameKind.free) ∈ scope.names → ∃ c, env.cells.lookup x = some c := fun x hx => by
  refine B8 (fun k' p hl hk => ?_) <| (I.kinds x .free hx).2 rfl
  exact F.ok.cells x k' (of_mem_zip hl.mem).1 hk
 refine ⟨hsc.kind, F.ok.globals, F.ok.builtins, fun x k hx => ⟨?_, hsc.plain x k hx⟩, fun x k hx hk => ?_, hsc.nodup, fun x y c hx hy => ?_⟩
 ·have hnd : ((relabel scope env).names.map (·.1)).Nodup := by
   have : ((relabel scope env).names.map (·.1)) = scope.names.map (·.1) := by
    show ((scope.names.map _).map _) = _
    rw [map_map]
    refine map_congr_left fun y _ => ?_
    show (if (y.2 == NameKind.free && env.scope.kind == .function && env.kindOf y.1 == some .cell) = true then (y.1, NameKind.cell) else (y.1, y.2)).1 = y.1
    split <;> rfl
   rw [this]; exact hsc.nodup
  have hm : (if (k == NameKind.free && env.scope.kind == .function && env.kindOf x == some .cell) = true then (x, NameKind.cell) else (x, k)) ∈ (relabel scope env).names := List.mem_map.mpr ⟨(x, k), hx, rfl⟩
  by_cases hc : (k == NameKind.free && env.scope.kind == .function && env.kindOf x == some .cell) = true
  ·rw [if_pos hc] at hm
   simp only [and_eq_true, beq_iff_eq] at hc
   exact .inr ⟨hc.1.1, Au hnd hm⟩
  ·rw [if_neg hc] at hm
   exact .inl (Au hnd hm)
 ·rcases hk with rfl | rfl
  ·exact absurd rfl (I.kinds x .cell hx).1
  ·refine Ao (fun c hc => ?_) <| cell x hx
   exact ⟨c, Jm hx hc⟩
 ·refine Av (fun mx ex => ?_) <| EB hx
  refine Av (fun my ey => ?_) <| EB hy
  refine Ao (fun cx hcx => ?_) <| cell x mx
  refine Ao (fun cy hcy => ?_) <| cell y my
  rw [hcx] at ex; rw [hcy] at ey
  exact F.ok.cinj x y c (by rw [hcx, ex]; rfl) (by rw [hcy, ey]; rfl)
theorem Nl (F : Fm X H Z' env nm m L s) (hsc : Eg scope) (I : Cr X nm m scope.names m₀) (hC : C ∈ Z') (hns : s.heap.Ns C fun _ => none)
  (hcells : ∀ x c, env.cells.lookup x = some c → c ≠ C) : Fm X H Z' (compEnvC scope (CS env scope.names []) C env) scope.names m₀ L s := by
 refine ⟨F.hp, Jr F hsc I, fun x k p hm => ?_, ⟨_, hns⟩, hC, fun x c hx => ?_⟩
 ·rcases I.inv x k p hm with ⟨rfl, k', hl, hk⟩ | ⟨rfl, hg⟩
  ·have hx : (x, NameKind.free) ∈ scope.names := (of_mem_zip hm).1
   have N := F.vals x k' p hl.mem
   rcases hk with rfl | rfl
   ·refine B8 (fun c v hc r => ?_) <| N; exact ⟨c, v, Jm hx hc, r⟩
   ·refine B8 (fun c v hc r => ?_) <| N; exact ⟨c, v, Jm hx hc, r⟩
  ·exact hg
 ·refine Av (fun mx ex => ?_) <| EB hx
  refine B8 (fun k' p hl hk => ?_) <| (I.kinds x .free mx).2 rfl
  refine Ao (fun c' hc' => ?_) <| F.ok.cells x k' (of_mem_zip hl.mem).1 hk
  rw [hc'] at ex
  rw [show c = c' from ex]
  obtain ⟨hz, _, v, hv⟩ := F.cz x c' hc'
  exact ⟨hz, hcells x c' hc', v, hv⟩
structure EW (X : Cx) (A : Around) (e : PySem.Expr) (depth : Nat) (g : Comprehension) (inner : Env → Addr → Sem Unit) : Prop where
 und : ∀ cenv it acc, A.under (.compLoop e depth it acc cenv) = A
 den : ∀ cenv it acc, X.M.den (.compLoop e depth it acc cenv) = (compTurn e depth it acc cenv).onRaise fun x => do noteFrame x cenv; theTreesLotGoes x
 und' : ∀ cenv it acc, A.under (.compStart e depth it acc cenv) = A
 den' : ∀ cenv it acc, X.M.den (.compStart e depth it acc cenv) = (compStart e depth it acc cenv).onRaise fun x => do noteFrame x cenv; standAt theWindowsPlace
 quiet : ∀ cenv it acc, (Code.compLoop e depth it acc cenv).quiet = true
 gth : (clausesOf e)[depth]? = some g
 sync : g.is_async = 0
 turn : ∀ cenv it D, compTurn e depth it (.ref D) cenv = Dj g (inner cenv D) e depth it (.ref D) cenv
theorem Hm {R : Acc α} {g : Comprehension} {use : Option (Value → Sem Unit)} {x0 : α}
  {Fin : Ai → α → Prop} {Qv : QV} (F : Fm X A.handled Z env nm m L s)
  (hcl : clausesOf e = g :: gs) (hs : ∀ x, foldedSetIterable g.iter env x = pure x) (hsc : Eg scope) (I : Cr X nm m scope.names m₀) (tx : EW X A e 0 g inner) (ht : tg g.target)
  (hnew : ∀ (s : Shared) (Q : QV), (∀ o, o.isFreed = false → (∀ D h, h.get? s.heap.objs.size = some o → R.rel D h s.heap.objs.size x0) → Q (.ref s.heap.objs.size) { s with heap := s.heap.push o }) → wpAny X.M A newAcc Q E s)
  (h : WI X A env nm m (eval g.iter env) L tg fun ps Ok L1 => ∃ J : Nat → AU → Ai → α → Prop, J 0 m₀ L1 x0 ∧
   (∀ cenv, A8 cenv scope.names → cenv.code = env.code → cenv.qual = env.qual → ∀ i p m' L' x, ps[i]? = some p → J i m' L' x → Ok L' ∧ WAs X A cenv scope.names m' (assign g.target cenv) p L' fun m2 L2 =>
    WTs X A cenv scope.names m2 g.ifs L2 (fun L3 => WEm R X A cenv scope.names m2 (inner cenv) x L3 (J (i + 1))) fun L3 => J (i + 1) m2 L3 x) ∧
   (∀ m' L' x, J ps.length m' L' x → Ok L' ∧ Fin L' x))
  (hfin : ∀ D C L' x s', Fin L' x → R.rel (dz L' (D :: C :: Z)) s'.heap D x → Fm X A.handled (D :: C :: Z) env nm m L' s' → s.heap.get? D = none → s.heap.get? C = none → D ≠ C → (∃ mv, s'.heap.Ns C mv) → BF L L' s s' →
   compPost X.M A E use Qv (.ref D) C (.ok .next) s') : wpAny X.M A (comprehension e scope env pos newAcc false (eval g.iter env) use) Qv E s := by
 have hcell : ∀ x, (x, NameKind.free) ∈ scope.names → ∃ c, env.cells.lookup x = some c := fun x hx => by
  refine B8 (fun k' p hl hk => ?_) <| (I.kinds x .free hx).2 rfl
  exact F.ok.cells x k' (of_mem_zip hl.mem).1 hk
 refine wpAny_comprehension_free hcl hs (FB hcell) hsc.kind (fun x hx hl => by rw [Au hsc.nodup (show (x.1, x.2) ∈ scope.names from hx), hl]) (Ap (h Z s E F) fun v s1 h1 => ?_)
 refine CQ (fun ps Ok L1 o₀3 hi => ?_) <| h1; obtain ⟨J, hJ0, hstep, hend⟩ := o₀3
 refine hi A E _ rfl (AR _) fun I' wr gn St s2 T st P2 e2 hz hg2 => ?_
 refine hnew s2 _ fun o hfr hrel => ?_
 refine wpAny_newFunctionEnv (fun x hx => (I.kinds x.1 x.2 hx).1) (fun x hx => by cases hx) (fun h₁ hns hsb => ?_) hsc.kind
 dsimp only at hns hsb ⊢
 generalize hH2 : s2.heap.push o = H2 at hns hsb ⊢
 have hC : H2.objs.size = s2.heap.objs.size + 1 := by rw [← hH2, size_push]
 have old : ∀ b o, s2.heap.get? b = some o → h₁.get? b = some o := fun b o e => by
  refine hsb.extBut b o (fun q => ?_) (get?_push_of_some _ (hH2 ▸ get?_push_of_some _ e))
  have := lt_size e
  rw [q, hC] at this
  exact lt_irrefl _ (Nat.lt_trans (lt_succ_self _) this)
 have hD : h₁.get? s2.heap.objs.size = some o := hsb.extBut _ _ (by rw [hC]; exact ne_of_lt (lt_succ_self _)) (get?_push_of_some _ (hH2 ▸ get?_push_size _ hfr))
 generalize hDn : s2.heap.objs.size = D at *
 generalize hCn : H2.objs.size = C at *
 have hDC : D ≠ C := by rw [hC]; exact ne_of_lt (lt_succ_self _)
 have k4 : Keeps s2 { s2 with heap := h₁, toks := s2.toks + ([] : List (Str × Value)).length } := ⟨h₁, _, rfl, old⟩
 generalize hs4 : ({ s2 with heap := h₁, toks := s2.toks + ([] : List (Str × Value)).length } : Shared) = s4 at k4
 have hh4 : s4.heap = h₁ := by rw [← hs4]
 obtain ⟨oC, hoC⟩ : ∃ oC, h₁.get? C = some oC := let ⟨o, _, _, e, _⟩ := hns; ⟨o, e⟩
 obtain ⟨P4', kp4⟩ := P2.grow (Z' := [D, C]) k4 fun a ha => by
  rw [hDn, hh4]
  revert a ha; refine Ev ?_ ?_
  ·exact ⟨le_refl _, o, hD⟩
  ·exact ⟨by rw [hC]; exact le_succ _, oC, hoC⟩
 have P4 : Hp X A.handled (wr ++ (D :: C :: Z)) L1 s4 := P4'.perm fun a => by simp; constructor <;> (intro h; rcases h with h | h | h | h <;> simp [h])
 have e4 : BF L L1 s s4 := e2.trans (.keeps k4)
 have fD : s.heap.get? D = none := by
  cases e : s.heap.get? D with
  | none => rfl
  | some o' => refine Ao (fun o2 e' => ?_) <| e2.live D o' e; rw [Ac s2.heap (le_of_eq hDn)] at e'; cases e'
 have fC : s.heap.get? C = none := by
  cases e : s.heap.get? C with
  | none => rfl
  | some o' => refine Ao (fun o2 e' => ?_) <| e2.live C o' e; rw [Ac s2.heap (by rw [hDn, hC]; exact le_succ _)] at e'; cases e'
 have hwD : D ∉ wr := fun q => by
  refine Ao (fun o2 e' => ?_) <| P2.zone D (mem_append_left _ q)
  rw [Ac s2.heap (le_of_eq hDn)] at e'; cases e'
 have hwC : C ∉ wr := fun q => by
  refine Ao (fun o2 e' => ?_) <| P2.zone C (mem_append_left _ q)
  rw [Ac s2.heap (by rw [hDn, hC]; exact le_succ _)] at e'; cases e'
 have F4 : Fm X A.handled (wr ++ (D :: C :: Z)) env nm m L1 s4 := by
  have q := F.grow (wr := wr ++ [D, C]) e4 (fun a ha => by
   rcases List.mem_append.mp ha with h | h
   ·exact hz a h
   ·simp at h; rcases h with rfl | rfl
    ·exact fD
    ·exact fC) (P4.perm fun a => by simp)
  rw [append_assoc] at q
  exact q
 have hcC : ∀ x c, env.cells.lookup x = some c → c ≠ C := fun x c e q => by
  obtain ⟨_, _, v, o', e', _⟩ := F.cz x c e
  rw [q, fC] at e'; cases e'
 have FC := Nl F4 hsc I (C := C) (by simp) (by rw [hh4]; exact hns) hcC
 have hlw : C ∉ wr := hwC
 have hcell' : ∀ x c, (CS env scope.names []).lookup x = some c → env.cells.lookup x = some c := fun x c e => by
  refine Av (fun mx ex => ?_) <| EB e
  refine Ao (fun c' hc' => ?_) <| hcell x mx
  rw [hc'] at ex
  rw [hc', show c = c' from ex]
 have C0 : Cf R X A.handled (wr ++ (D :: C :: Z)) (compEnvC scope (CS env scope.names []) C env) scope.names m₀ L1 D x0 s4 :=
  ⟨FC, hrel _ _ (by rw [hh4]; exact hD), by simp, hDC, fun y hy => by
   obtain ⟨_, _, v, o', e', _⟩ := F.cz y D (hcell' y D hy)
   rw [fD] at e'; cases e'⟩
 have st4 : St 0 wr (dz L1 (wr ++ (D :: C :: Z))) s4 := by
  refine T.mono 0 wr _ _ s2 s4 st (kp4.trans (AP fun a hm => ?_)) (fun b _ o' e' => ?_) (fun g x e' => by rw [← hs4]; exact e')
  ·unfold dz at hm ⊢
   simp at hm ⊢
   rcases hm with h | h | h | h | h <;> simp [h]
  ·rw [hh4]; exact old b o' e'
 show codeAny X.M A (.compStart e 0 (.ref I') (.ref D) (compEnvC scope (CS env scope.names []) C env)) (compPost X.M A E use Qv (.ref D) C) _
 refine Gi (tx.und' _ _ _) (tx.den' _ _ _) (tx.quiet _ _ _) tx.gth tx.sync ?_ (T.self A 0 wr _ s4 _ _ st4 ⟨rfl, rfl⟩)
 refine Hn (tx.und _) (tx.den _) (tx.turn _) T ht J (hstep _ FC.ok rfl rfl) (fun m' L' x' hj => (hend m' L' x' hj).1) hJ0 C0 st4 hz hg2 hlw (fun x c e q => ?_) hwD (e4.toS.toD D) fun m' L' x' s' Zc hj C' hZc e' => ?_
 ·obtain ⟨_, _, v, o', e', _⟩ := F.cz x c (hcell' x c e)
  rw [hz c q] at e'; cases e'
 ·have ext' : BF L L' s s' := ⟨fun a o' ea n => e'.heap a o' ea n (fun q => by rw [q, fD] at ea; cases ea) (fun q => by rw [q] at ea; rw [show (compEnvC scope (CS env scope.names []) C env).locals = C from rfl, fC] at ea; cases ea) fun x hx => absurd rfl (I.kinds x .cell hx).1, e'.gens, e'.live⟩
  have P' : Hp X A.handled ([D, C] ++ Z) L' s' := C'.fm.hp.sub hZc
  refine hfin D C L' x' s' (hend m' L' x' hj).2 (R.kp C'.rel (AP (Gl hZc)) fun _ e => e) (F.grow (wr := [D, C]) ext' (fun a ha => ?_) P') fD fC hDC C'.fm.nsx ext'
  ·revert a ha; refine Ev ?_ ?_
   ·exact fD
   ·exact fC
theorem Fm.rezone {Z1 Z2 : List Addr} (F : Fm X H Z1 env nm m L1 s) (P : Hp X H Z2 L2 s) (hd : ∀ a, a ∈ dz L2 Z2 → a ∈ dz L1 Z1) (hl : env.locals ∈ Z2) (hc : ∀ x c, env.cells.lookup x = some c → c ∈ Z2) : Fm X H Z2 env nm m L2 s := by
 refine ⟨P, F.ok, fun x k p hm => (F.vals x k p hm).kp (AP hd) (fun _ e => e) (fun _ _ _ e => e), F.nsx, hl, fun x c e => ?_⟩
 refine CP (fun _ hne r => ?_) <| F.cz x c e
 exact ⟨hc x c e, hne, r⟩
structure IY {α : Type} (R : Acc α) (X : Cx) (Ad : Addr → α → Ai → QE) : Prop where
 hp : ∀ {H : Option Value} {Zr : List Addr} {L L2 : Ai} {s : Shared} {D : Addr} {x : α} {p : PV}, Hp X H (D :: Zr) L s → R.rel (dz L (D :: Zr)) s.heap D x → D ∉ Zr → Ad D x L p L2 → Hp X H Zr L2 s ∧ Aj (dz L2 Zr) s.heap p (.ref D)
 dom : ∀ {L L2 : Ai} {D : Addr} {x : α} {p : PV}, Ad D x L p L2 → ∀ b, b ∈ dom L2 → b = D ∨ b ∈ dom L
inductive E7 : Addr → List PV → Ai → QE
 | led {D ps L : _} : E7 D ps L (.ref D) ((D, .list ps) :: L)
 | frz {D ps L : _} : E7 D ps L (.lst ps) L
theorem Hp.unzone {D : Addr} (P : Hp X H (D :: Zr) L s) (hn : D ∉ Zr) : Hp X H Zr L s ∧ D ∉ dz L Zr := by
 refine ⟨Hp.shrink (Z' := [D]) P, fun hm => ?_⟩
 rcases List.mem_append.mp hm with q | q
 ·exact P.apart D q (.head _)
 ·exact hn q
theorem D0 : IY Cq X E7 where
 hp := fun {H Zr L L2 s D x p} P r hn a => by
  refine B8 (fun vs n ho V => ?_) <| r
  refine Av (fun P' hD => ?_) <| P.unzone hn
  have sub : ∀ a, a ∈ dz L Zr → a ∈ dz L (D :: Zr) := fun a hm => (List.mem_append.mp hm).elim (mem_append_left _) fun q => mem_append_right _ (.tail _ q)
  have hperm : ∀ a, a ∈ dz ((D, .list x) :: L) Zr → a ∈ dz L (D :: Zr) := fun a hm => by
   rcases List.mem_cons.mp (show a ∈ D :: dz L Zr from hm) with q | q
   ·exact q ▸ mem_append_right _ (.head _)
   ·exact sub a q
  cases a with
  | led =>
   have kp : Kp (dz L (D :: Zr)) (dz ((D, .list x) :: L) Zr) s.heap s.heap := AP hperm
   refine ⟨⟨P.keep, P.os, P.bare, fun y hy => ?_, List.nodup_cons.mpr ⟨fun hm => P.apart D hm (.head _), P.nodup⟩, fun b hb => P.fresh b (hperm b hb), fun b hb hz => ?_, P'.zone, P.held.kp kp⟩, E3 _⟩
   ·rcases List.mem_cons.mp hy with q | q
    ·subst q; exact ⟨vs, n, ho, V.kp kp⟩
    ·exact BP.kp kp (fun _ e => e) (P.led y q)
   ·rcases List.mem_cons.mp (show b ∈ D :: Mine.dom L from hb) with q | q
    ·exact hn (q ▸ hz)
    ·exact P'.apart b q hz
  | frz =>
   refine ⟨P', ?_⟩
   exact Exists.intro D ⟨vs, n, rfl, ⟨ho, hD⟩, V.kp (AP sub)⟩
 dom := fun a b hb => by
  cases a with
  | led => exact List.mem_cons.mp hb
  | frz => exact .inr hb
theorem Hp.forget (P : Hp X H (C :: Zr) L s) (hs : Heap.SameBut C s.heap h') (hn : C ∉ Zr) : Hp X H Zr L { s with heap := h' } ∧ Kp (dz L (C :: Zr)) (dz L Zr) s.heap h' := by
 have sub : ∀ a, a ∈ dz L Zr → a ∈ dz L (C :: Zr) := fun a hm => (List.mem_append.mp hm).elim (mem_append_left _) fun q => mem_append_right _ (.tail _ q)
 have kp : Kp (dz L (C :: Zr)) (dz L Zr) s.heap h' := fun a o e n => ⟨(hs.2 a fun q => n (q ▸ mem_append_right _ (.head _))).trans e, fun hm => n (sub a hm)⟩
 refine ⟨⟨fun b o e => (hs.2 b fun q => ?_).trans (P.keep b o e), P.os, P.bare, fun x hx => BP.kp kp (fun ob e => (hs.2 _ fun q => ?_).trans e) (P.led x hx), P.nodup, fun a ha => P.fresh a (sub a ha), fun a ha hz => P.apart a ha (.tail _ hz), fun a ha => ?_, P.held.kp kp⟩, kp⟩
 ·exact P.base e (mem_append_right _ (q ▸ .head _))
 ·exact P.apart x.1 (AX hx) (q ▸ .head _)
 ·refine Ao (fun o e => ?_) <| P.zone a (.tail _ ha)
  exact ⟨o, (hs.2 a fun q => hn (q ▸ ha)).trans e⟩
theorem Fm.forget (F : Fm X H (C :: Zr) env nm m L s) (hs : Heap.SameBut C s.heap h') (hn : C ∉ Zr) (hl : env.locals ∈ Zr) (hc : ∀ x c, env.cells.lookup x = some c → c ∈ Zr) : Fm X H Zr env nm m L { s with heap := h' } := by
 refine Av (fun P kp => ?_) <| F.hp.forget hs hn
 have lk : ∀ o, s.heap.get? env.locals = some o → h'.get? env.locals = some o := fun o e => (hs.2 _ fun q => hn (q ▸ hl)).trans e
 have ck : ∀ y c o, env.cells.lookup y = some c → s.heap.get? c = some o → h'.get? c = some o := fun y c o e ho => (hs.2 c (fun q => hn (q ▸ hc y c e))).trans ho
 refine ⟨P, F.ok, fun x k p hm => (F.vals x k p hm).kp kp lk fun c o e ho => ck x c o e ho, ?_, hl, fun x c e => ?_⟩
 ·refine DD (fun mv o es ep ho r => ?_) <| F.nsx; exact ⟨mv, o, es, ep, lk o ho, r⟩
 ·obtain ⟨_, hne, v, o, ho, hd⟩ := F.cz x c e
  exact ⟨hc x c e, hne, v, o, ck x c o e ho, hd⟩
def Dx {α : Type} (R : Acc α) (X : Cx) (A : Around) (env : Env) (nm : Nm) (m : AU) (L : Ai) (g : Comprehension) (scope : Scope) (tg : PySem.Expr → Prop) (inner : Env → Addr → Sem Unit) (x0 : α) (Fin : Ai → α → Prop) : Prop :=
 ∃ m₀, Cr X nm m scope.names m₀ ∧ tg g.target ∧ WI X A env nm m (eval g.iter env) L tg fun ps Ok L1 => ∃ J : Nat → AU → Ai → α → Prop, J 0 m₀ L1 x0 ∧
   (∀ cenv, A8 cenv scope.names → cenv.code = env.code → cenv.qual = env.qual → ∀ i p m' L' x, ps[i]? = some p → J i m' L' x → Ok L' ∧ WAs X A cenv scope.names m' (assign g.target cenv) p L' fun m2 L2 =>
    WTs X A cenv scope.names m2 g.ifs L2 (fun L3 => WEm R X A cenv scope.names m2 (inner cenv) x L3 (J (i + 1))) fun L3 => J (i + 1) m2 L3 x) ∧
   (∀ m' L' x, J ps.length m' L' x → Ok L' ∧ Fin L' x)
theorem Kw {R : Acc α} {Ad : Addr → α → Ai → QE} (hAd : IY R X Ad) {g : Comprehension} {x0 : α}
  (h : Dx R X A env nm m L g scope tg inner x0 fun L' x => ∀ D, ∃ p L2, Ad D x L' p L2 ∧ Q p L2)
  (hcl : clausesOf e = g :: gs) (hs : ∀ x, foldedSetIterable g.iter env x = pure x) (hsc : Eg scope) (tx : EW X A e 0 g inner)
  (hnew : ∀ E (s : Shared) (Q : QV), (∀ o, o.isFreed = false → (∀ D h, h.get? s.heap.objs.size = some o → R.rel D h s.heap.objs.size x0) → Q (.ref s.heap.objs.size) { s with heap := s.heap.push o }) → wpAny X.M A newAcc Q E s)
  (hev : eval e env = comprehension e scope env pos newAcc false (eval g.iter env) none) : WE X A env nm m (eval e env) L Q := fun Z s E F => by
 refine F9 (fun m₀ I ht hw => ?_) <| h
 rw [hev]
 refine Hm F hcl hs hsc I tx ht (hnew E) hw fun D C L' x s' hf hr F' fD fC hDC hns ext => ?_
 refine Ao (fun mv hns => ?_) <| hns
 refine ⟨mv, hns, fun h' hs' => ?_⟩
 have nz : ∀ a, s.heap.get? a = none → a ∉ Z := fun a e q => by refine Ao (fun o e' => ?_) <| F.hp.zone a q; rw [e] at e'; cases e'
 have P1 : Hp X A.handled (C :: D :: Z) L' s' := F'.hp.perm fun a => by simp; constructor <;> (intro h; rcases h with h | h | h <;> simp [h])
 refine Av (fun P2 kp2 => ?_) <| P1.forget hs' (by simp; exact ⟨Ne.symm hDC, nz C fC⟩)
 have hr2 : R.rel (dz L' (D :: Z)) h' D x := R.kp hr ((AP fun a hm => by unfold dz at hm ⊢; simp at hm ⊢; rcases hm with h | h | h | h <;> simp [h]).trans kp2) fun o e => (hs'.2 D hDC).trans e
 refine B8 (fun p L2 ad q => ?_) <| hf D
 refine Av (fun P3 V3 => ?_) <| hAd.hp P2 hr2 (nz D fD) ad
 have hne : ∀ a o, s.heap.get? a = some o → a ≠ C ∧ a ≠ D := fun a o e => ⟨fun q => (by rw [q, fC] at e; cases e), fun q => (by rw [q, fD] at e; cases e)⟩
 refine ⟨p, L2, q, P3, V3, ⟨fun a o e n => ?_, ext.gens, fun a o e => ?_⟩⟩
 ·have := ext.heap a o e n
  exact ⟨(hs'.2 a (hne a o e).1).trans this.1, fun hm => (hAd.dom ad a hm).elim (hne a o e).2 this.2⟩
 ·refine Ao (fun o' e' => ?_) <| ext.live a o e
  exact ⟨o', (hs'.2 a (hne a o e).1).trans e'⟩
theorem DQ {R : Acc α} {Ad : Addr → α → Ai → QE} (hAd : IY R X Ad) {g : Comprehension} {y : Str} {x0 : α}
  (h : Dx R X A env nm m L g scope tg inner x0 fun L' x => ∀ D, ∃ p L2, Ad D x L' p L2 ∧ ∃ k m', Stn nm m y k p m' ∧ (k = .local ∨ k = .cell) ∧ Qn m' L2)
  (hcl : clausesOf e = g :: gs) (hs : ∀ x, foldedSetIterable g.iter env x = pure x) (hsc : Eg scope) (tx : EW X A e 0 g inner)
  (hnew : ∀ E (s : Shared) (Q : QV), (∀ o, o.isFreed = false → (∀ D h, h.get? s.heap.objs.size = some o → R.rel D h s.heap.objs.size x0) → Q (.ref s.heap.objs.size) { s with heap := s.heap.push o }) → wpAny X.M A newAcc Q E s)
  (hsw : swapsWith e (some (.Name y py)) spos.line env = pure true)
  (hev : ∀ u, evalThenUse e env u = (do let _ ← comprehension e scope env pos newAcc false (eval g.iter env) (some u))) : WS X A env nm m (exec (.Assign [.Name y py] e spos) env) L Qn Qr Qb Qc := fun Z s E F => by
 refine F9 (fun m₀ I ht hw => ?_) <| h
 rw [exec_Assign_Name_used _ _ _ _ hsw, hev]
 refine wpAny_bind (wpAny_standAt (wpAny_bind ?_))
 refine wpAny_bind (Ap (Hm (Qv := fun _ s' => DA X A.handled Z env nm L s ⟨Qn, Qr, Qb, Qc⟩ .next s') F hcl hs hsc I tx ht (hnew E) hw fun D C L' x s' hf hr F' fD fC hDC hns ext => ?_) fun _ s' hq => wpAny_pure (wpAny_pure hq))
 have nz : ∀ a, s.heap.get? a = none → a ∉ Z := fun a e q => by refine Ao (fun o e' => ?_) <| F.hp.zone a q; rw [e] at e'; cases e'
 have hne : ∀ a o, s.heap.get? a = some o → a ≠ C ∧ a ≠ D := fun a o e => ⟨fun q => (by rw [q, fC] at e; cases e), fun q => (by rw [q, fD] at e; cases e)⟩
 obtain ⟨p, L2, ad, k, m', S, hk, q⟩ := hf D
 refine Av (fun P2 V2 => ?_) <| hAd.hp F'.hp hr (by simp; exact ⟨hDC, nz D fD⟩) ad
 have sub2 : ∀ a, a ∈ dz L2 (C :: Z) → a ∈ dz L' (D :: C :: Z) := fun a hm => by
  rcases List.mem_append.mp hm with q | q
  ·rcases hAd.dom ad a q with q | q
   ·exact q ▸ mem_append_right _ (.head _)
   ·exact mem_append_left _ q
  ·exact mem_append_right _ (.tail _ q)
 have cz2 : ∀ x c, env.cells.lookup x = some c → c ∈ Z := fun x c e => (F.cz x c e).1
 have F2 : Fm X A.handled (C :: Z) env nm m L2 s' := F'.rezone P2 sub2 (.tail _ F.lz) fun x c e => .tail _ (cz2 x c e)
 show wpAny X.M A (assign (.Name y py) env (.ref D)) _ _ _
 refine wpAny_assign_Name (F2.store S hk V2 fun s3 F3 e3 => ?_)
 refine DD (fun mv o es ep ho r => ?_) <| hns
 have hCl : C ≠ env.locals := fun q => nz C fC (q ▸ F.lz)
 have hCc : ∀ x, env.cells.lookup x ≠ some C := fun x q => nz C fC (cz2 x C q)
 have hC3 := e3.heap C o ho (fun q => F2.hp.apart C q (.head _)) hCl fun x _ => hCc x
 refine ⟨mv, ⟨o, es, ep, hC3.1, r⟩, fun h' hs' => ?_⟩
 have F4 := F3.forget hs' (nz C fC) F.lz cz2
 refine ⟨.next, m', L2, q, F4, rfl, ⟨fun a o e n nl nc => ?_, fun g x e => e3.gens g x (ext.gens g x e), fun a o e => ?_⟩⟩
 ·have h1 := ext.heap a o e n
  have h2 := e3.heap a o h1.1 (fun hm => (hAd.dom ad a hm).elim (hne a o e).2 h1.2) nl nc
  exact ⟨(hs'.2 a (hne a o e).1).trans h2.1, h2.2⟩
 ·refine Ao (fun o' e' => ?_) <| ext.live a o e
  refine Ao (fun o2 e2 => ?_) <| e3.live a o' e'
  exact ⟨o2, (hs'.2 a (hne a o e).1).trans e2⟩
theorem EJ {Q : QV} (h : ∀ o, o.isFreed = false → (∀ D h, h.get? s.heap.objs.size = some o → Cq.rel D h s.heap.objs.size []) → Q (.ref s.heap.objs.size) { s with heap := s.heap.push o }) :
  wpAny X.M A (newList []) Q E s := wpAny_newObj_type (h _ rfl fun D h e => ⟨[], 0, e, .nil⟩) (by size_fits)
theorem IQ : EW X A (.ListComp elt [⟨target, iter, ifs, 0⟩] scope pos) 0 ⟨target, iter, ifs, 0⟩ (fun cenv D => do let _ ← call (.builtin "list.append") [.ref D, ← eval elt cenv]) where
 und := fun _ _ _ => rfl
 den := fun _ _ _ => rfl
 und' := fun _ _ _ => rfl
 den' := fun _ _ _ => rfl
 quiet := fun _ _ _ => rfl
 gth := rfl
 sync := rfl
 turn := fun _ _ _ => rfl
theorem IR : EW X A (.ListComp elt [⟨target, iter, ifs, 0⟩, ⟨target', iter', ifs', 0⟩] scope pos) 0 ⟨target, iter, ifs, 0⟩ (fun cenv D => do
   let x ← eval iter' cenv
   standAt iter'.pos
   let x ← foldedSetIterable iter' cenv x
   let _ ← runOwn (.compStart (.ListComp elt [⟨target, iter, ifs, 0⟩, ⟨target', iter', ifs', 0⟩] scope pos) 1 (← holding [x] (pyIter x)) (.ref D) cenv) cenv) where
 und := fun _ _ _ => rfl
 den := fun _ _ _ => rfl
 und' := fun _ _ _ => rfl
 den' := fun _ _ _ => rfl
 quiet := fun _ _ _ => rfl
 gth := rfl
 sync := rfl
 turn := fun cenv it D => by
  have e1 : compTurn (.ListComp elt [⟨target, iter, ifs, 0⟩, ⟨target', iter', ifs', 0⟩] scope pos) 0 it (.ref D) cenv = (do
    standAt iter.pos
    match ← pyNext it with
    | none => pure (.done .next)
    | some v =>
     letOwnedTupleGo target it v
     assign target cenv v
     let ok ← (forIn ifs true fun c r => if r = true then do let ok ← isTrue c cenv (eval c cenv); pure (ForInStep.yield ok) else pure (ForInStep.yield r))
     if ok = true then do
      let x ← eval iter' cenv
      standAt iter'.pos
      let x ← foldedSetIterable iter' cenv x
      let y ← holding [x] (pyIter x)
      let _ ← runOwn (.compStart (.ListComp elt [⟨target, iter, ifs, 0⟩, ⟨target', iter', ifs', 0⟩] scope pos) 1 y (.ref D) cenv) cenv
      again (.compLoop (.ListComp elt [⟨target, iter, ifs, 0⟩, ⟨target', iter', ifs', 0⟩] scope pos) 0 it (.ref D) cenv)
     else again (.compLoop (.ListComp elt [⟨target, iter, ifs, 0⟩, ⟨target', iter', ifs', 0⟩] scope pos) 0 it (.ref D) cenv)) := rfl
  rw [e1]
  unfold Dj
  congr 1; funext _; congr 1; funext r
  cases r with
  | none => rfl
  | some v =>
   dsimp only
   congr 1; funext _; congr 1; funext _; congr 1; funext ok
   cases ok with
   | false => simp only [false_eq_true, if_false, pure_bind]
   | true => simp only [if_true, bind_assoc, pure_bind]
theorem Lh : EW X A (.ListComp elt [⟨target, iter, ifs, 0⟩, ⟨target', iter', ifs', 0⟩] scope pos) 1 ⟨target', iter', ifs', 0⟩ (fun cenv D => do let _ ← call (.builtin "list.append") [.ref D, ← eval elt cenv]) where
 und := fun _ _ _ => rfl
 den := fun _ _ _ => rfl
 und' := fun _ _ _ => rfl
 den' := fun _ _ _ => rfl
 quiet := fun _ _ _ => rfl
 gth := rfl
 sync := rfl
 turn := fun _ _ _ => rfl
noncomputable abbrev emL (elt : PySem.Expr) : Env → Addr → Sem Unit := fun cenv D => do let _ ← call (.builtin "list.append") [.ref D, ← eval elt cenv]
theorem Dw (hs : ∀ x, foldedSetIterable iter env x = pure x) (hsc : Eg scope)
  (h : Dx Cq X A env nm m L ⟨target, iter, ifs, 0⟩ scope tg (emL elt) [] fun L' x => ∀ D, ∃ p L2, E7 D x L' p L2 ∧ Q p L2) : WE X A env nm m (eval (.ListComp elt [⟨target, iter, ifs, 0⟩] scope pos) env) L Q :=
 Kw D0 h rfl hs hsc IQ (fun E s Q => EJ) rfl
theorem Fz {y : Str} (hs : ∀ x, foldedSetIterable iter env x = pure x) (hsc : Eg scope)
  (hsw : swapsWith (.ListComp elt [⟨target, iter, ifs, 0⟩] scope pos) (some (.Name y py)) spos.line env = pure true)
  (h : Dx Cq X A env nm m L ⟨target, iter, ifs, 0⟩ scope tg (emL elt) [] fun L' x => ∀ D, ∃ p L2, E7 D x L' p L2 ∧ ∃ k m', Stn nm m y k p m' ∧ (k = .local ∨ k = .cell) ∧ Qn m' L2) :
  WS X A env nm m (exec (.Assign [.Name y py] (.ListComp elt [⟨target, iter, ifs, 0⟩] scope pos) spos) env) L Qn Qr Qb Qc :=
 DQ D0 h rfl hs hsc IQ (fun E s Q => EJ) hsw fun _ => rfl
noncomputable def pick {α : Type} (l : List α) (lo hi st : Option Int) : List α :=
 (sliceRange (sliceBounds lo hi st l.length).1 (sliceBounds lo hi st l.length).2.1 (sliceBounds lo hi st l.length).2.2).filterMap (l[·]?)
theorem BK (l : List α) (lo hi : Option Int) : pick l lo hi none = (l.drop (lo.elim 0 (clipAt l.length))).take (hi.elim l.length (clipAt l.length) - lo.elim 0 (clipAt l.length)) := by
 unfold pick
 rw [sliceBounds_plain]
 dsimp only
 rw [sliceRange_one]
 have := pick_run l.toArray (lo.elim 0 (clipAt l.length)) (hi.elim l.length (clipAt l.length) - lo.elim 0 (clipAt l.length))
 simpa using this
theorem Bf (f : α → β) (l : List α) (lo hi st : Option Int) : pick (l.map f) lo hi st = (pick l lo hi st).map f := by
 unfold pick
 rw [length_map, List.map_filterMap]
 congr 1
 funext i
 rw [getElem?_map]
theorem DJ (l : List α) (lo hi st : Option Int) : (pick l lo hi st).length ≤ l.length := by
 have := slicePick_size_le (l.map fun _ => Value.none).toArray lo hi st
 unfold slicePick at this
 rw [size_toArray, size_toArray, length_map] at this
 unfold pick
 have e : ∀ (r : List Nat), (r.filterMap (l[·]?)).length = (r.filterMap ((l.map fun _ => Value.none).toArray[·]?)).length := by
  intro r
  induction r with
  | nil => rfl
  | cons i r ih =>
   rw [filterMap_cons, filterMap_cons]
   simp only [List.getElem?_toArray, getElem?_map]
   cases l[i]? with
   | none => simpa using ih
   | some x => simpa using ih
 rw [e]; exact this
theorem Ae.pick {vs : List Value} (V : Ae D h ps vs) (lo hi st : Option Int) : Ae D h (pick ps lo hi st) (Mine.pick vs lo hi st) := by
 unfold Mine.pick
 rw [V.length]
 generalize sliceRange _ _ _ = r
 induction r with
 | nil => exact .nil
 | cons i r ih =>
  rw [filterMap_cons, filterMap_cons]
  cases e : ps[i]? with
  | none =>
   have : vs[i]? = none := by
    cases e2 : vs[i]? with
    | none => rfl
    | some v => refine Ar (fun p hp _ => ?_) <| V.get' e2; rw [e] at hp; cases hp
   rw [this]; exact ih
  | some p =>
   refine Ar (fun v hv Vv => ?_) <| V.get e
   rw [hv]; exact .cons Vv ih
theorem EP (vs : List Value) (lo hi st : Option Int) : slicePick vs.toArray lo hi st = (pick vs lo hi st).toArray := by
 unfold slicePick pick
 simp
theorem HX {lo hi st : Option Int} (x : Aj D h (.sli lo hi st) v) : ∃ a vl vu vs, v = .ref a ∧ (h.get? a = some { cls := .type "slice", data := .fields #[vl, vu, vs] } ∧ a ∉ D) ∧ IsPart vl lo ∧ IsPart vu hi ∧ IsPart vs st := x
def Fj (X : Cx) (A : Around) (env : Env) (nm : Nm) (m : AU) (e : Option PySem.Expr) (L : Ai) (Q : Option Int → Ai → Prop) : Prop :=
 WE X A env nm m (evalPart e env) L fun p L1 => (p = .none ∧ Q none L1) ∨ ∃ i, p = .int i ∧ Q (some i) L1
theorem OH {Q : Option Int → Ai → Prop} (h : Q none L) : Fj X A env nm m none L Q := fun Z s E F => by
 rw [evalPart_none]; exact wpAny_pure (.keeps F.hp (Ag s) AS (.inl ⟨rfl, h⟩))
theorem OI {Q : Option Int → Ai → Prop} (h : WE X A env nm m (eval e env) L fun p L1 => ∃ i, p = .int i ∧ Q (some i) L1) : Fj X A env nm m (some e) L Q := fun Z s E F => by
 rw [evalPart_some]; exact (h.mono fun _ _ q => .inr q) Z s E F
theorem GE {Q : Option Int → Ai → Prop} (V : Aj D h p v) (q : (p = .none ∧ Q none L) ∨ ∃ i, p = .int i ∧ Q (some i) L) : ∃ o, IsPart v o ∧ Q o L := by
 rcases q with ⟨rfl, q⟩ | ⟨i, rfl, q⟩
 ·rw [Dp V]; exact ⟨none, .none, q⟩
 ·apply Ax V; intro t; exact ⟨some i, .int i t, q⟩
theorem Q5 {lower upper step : Option PySem.Expr} (h : Fj X A env nm m lower L fun lo L1 => Fj X A env nm m upper L1 fun hi L2 => Fj X A env nm m step L2 fun st L3 => Q (.sli lo hi st) L3) :
  WE X A env nm m (eval (.Slice lower upper step pos) env) L Q := fun Z s E F => by
 refine wpAny_Slice (wv (h Z s E F) fun vl s1 p1 L1 h1 P1 V1 e1 => ?_)
 refine Ar (fun lo i1 h1 => ?_) <| GE (Q := fun lo L1 => Fj X A env nm m upper L1 fun hi L2 => Fj X A env nm m step L2 fun st L3 => Q (.sli lo hi st) L3) V1 h1
 have F1 := F.ext e1 P1
 refine wv (h1 Z s1 E F1) fun vu s2 p2 L2 h2 P2 V2 e2 => ?_
 refine Ar (fun hi i2 h2 => ?_) <| GE (Q := fun hi L2 => Fj X A env nm m step L2 fun st L3 => Q (.sli lo hi st) L3) V2 h2
 have F2 := F1.ext e2 P2
 refine wv (h2 Z s2 E F2) fun vs s3 p3 L3 h3 P3 V3 e3 => ?_
 refine Ar (fun st i3 h3 => ?_) <| GE (Q := fun st L3 => Q (.sli lo hi st) L3) V3 h3
 have k := A9 s3 { cls := .type "slice", data := .fields #[vl, vu, vs] } s3.toks
 refine ⟨_, L3, h3, P3.keeps k, ?_, ((e1.trans e2).trans e3).trans (.keeps k)⟩
 exact Exists.intro _ ⟨vl, vu, vs, rfl, ⟨get?_push_size _ rfl, P3.new (le_refl _)⟩, i1, i2, i3⟩
theorem NK {lo hi st : Option Int} (l : LV L p ps) (hz : ps.length ≤ sizeLine) (h0 : st ≠ some 0) (h : ∀ a, Q (.ref a) ((a, .list (pick ps lo hi st)) :: L)) :
  CR X A (B4 value slice) p (.sli lo hi st) L Q := fun Z s E u v P Va Vb => by
 refine K3 (fun b vl vu vs' e₀4 hb i1 i2 i3 => ?_) <| HX Vb; obtain rfl := e₀4
 apply l.el P Va; intro a vs n ho r
 refine Dv (Ah ho).typeIs slot_list_getitem.lookup (wpAny_getItem_list_slice (Ah ho) ⟨_, hb.1, rfl, rfl⟩ i1 i2 i3 h0 ?_ (by rw [size_toArray, r.length]; exact hz))
 have k := A9 s { cls := .type "list", data := .seq (slicePick vs.toArray lo hi st) } s.toks
 refine Av (fun P2 e2 => ?_) <| P.alloc (ps := pick ps lo hi st) (vs := pick vs lo hi st) (n := 0) k (le_refl _) (by rw [EP]; exact get?_push_size _ rfl) (r.pick lo hi st)
 exact ⟨_, _, h _, P2, E3 _, e2⟩
theorem Bb {lo hi st : Option Int} (l : LV L p ps) (hz : ps.length ≤ sizeLine) (h0 : st ≠ some 0) (h : Q (.lst (pick ps lo hi st)) L) :
  CR X A (B4 value slice) p (.sli lo hi st) L Q := fun Z s E u v P Va Vb =>
 Ap (NK (Q := fun p L1 => ∃ a ps L2, p = .ref a ∧ CZ L1 a (.list ps) L2 ∧ Q (.lst ps) L2) l hz h0 (fun a => ⟨a, _, L, rfl, .here, h⟩) Z s E u v P Va Vb) fun _ _ x => x.freeze
theorem Le (lo hi : Option Int) (n : Nat) : Builtin.Str.strSliceIndices lo hi 1 n = sliceRange (sliceBounds lo hi none n).1 (sliceBounds lo hi none n).2.1 (sliceBounds lo hi none n).2.2 := by
 unfold Builtin.Str.strSliceIndices sliceBounds
 rfl
def BX : Value → Option (Int × Tok)
 | .int i t => some (i, t)
 | _ => none
theorem H0 {o : Option Int} (i : IsPart v o) : partValue (BX v) = v ∧ (BX v).map (·.1) = o := by
 cases i with
 | none => exact ⟨rfl, rfl⟩
 | int i t => exact ⟨rfl, rfl⟩
theorem Ni (n : Nat) (i : Int) : clipAt n i ≤ n := by
 unfold clipAt
 exact Int.toNat_le.mpr (Int.max_le.mpr ⟨natCast_nonneg _, Int.min_le_right _ _⟩)
theorem FN {x : List Nat} {lo hi : Option Int} (h : Q (.str (pick x lo hi none)) L) : CR X A (B4 value slice) (.str x) (.sli lo hi none) L Q := fun Z s E u v P Va Vb => by
 refine K3 (fun b vl vu vs' e₀4 hb i1 i2 i3 => ?_) <| HX Vb; obtain rfl := e₀4
 cases i3
 apply Bn Va; intro hx t
 refine Av (fun a1 b1 => ?_) <| H0 i1
 refine Av (fun a2 b2 => ?_) <| H0 i2
 have hs : s.heap.IsSlice b (BX vl) (BX vu) none := ⟨_, hb.1, rfl, by rw [a1, a2]; rfl⟩
 refine Dv (typeIs_str s _ t) F.slot_str_getitem.lookup (wpAny_getItem_str_slice hs rfl ?_)
 have hp : slicePicked ⟨x.toArray⟩ (BX vl) (BX vu) none = sliceRange (sliceBounds lo hi none x.length).1 (sliceBounds lo hi none x.length).2.1 (sliceBounds lo hi none x.length).2.2 := by
  unfold slicePicked
  rw [b1, b2]
  show Builtin.Str.strSliceIndices lo hi 1 (⟨x.toArray⟩ : Str).length = _
  rw [show (⟨x.toArray⟩ : Str).length = x.length from by simp [Str.length], Le]
 have hf : ((slicePicked ⟨x.toArray⟩ (BX vl) (BX vu) none).filterMap ((⟨x.toArray⟩ : Str).cps[·]?)) = pick x lo hi none := by
  rw [hp]; unfold pick; simp
 have hl := DJ x lo hi none
 have key : ∀ n t (y : Str), y.cps.toList = pick x lo hi none → Be X A.handled Z L s Q (.str y t) { s with toks := n } := fun n t y e => by
  refine .keeps P (Az s n) ?_ h
  rw [← e]
  exact DO y t (by
   have : y.length = (pick x lo hi none).length := by rw [← e]; simp [Str.length]
   rw [this]; exact AB 0x95010a0052800422 rt hx hl)
 unfold sliceMade
 split
 ·rename_i hc
  simp only [and_eq_true, beq_iff_eq] at hc
  refine key s.toks t _ ?_
  show x = pick x lo hi none
  have hlen : (pick x lo hi none).length = x.length := by
   clear key hf
   have h1 : (slicePicked ⟨x.toArray⟩ (BX vl) (BX vu) none).length = x.length := by simpa [Str.length] using hc.2
   rw [hp] at h1
   rw [sliceBounds_plain] at h1
   dsimp only at h1
   rw [sliceRange_one, length_map, length_range] at h1
   rw [BK, length_take, length_drop]
   rw [BK, length_take, length_drop] at hl
   generalize lo.elim 0 (clipAt x.length) = a at *
   have hb : hi.elim x.length (clipAt x.length) ≤ x.length := by
    cases hi with
    | none => exact le_refl _
    | some i => exact Ni _ i
   generalize hi.elim x.length (clipAt x.length) = b at *
   exact (min_eq_left (Nat.sub_le_sub_right hb a)).trans h1
  rw [BK] at hlen ⊢
  rw [length_take, length_drop] at hlen
  generalize lo.elim 0 (clipAt x.length) = a at *
  generalize hi.elim x.length (clipAt x.length) = b at *
  have ha : a = 0 ∨ x.length = 0 := by
   rcases Nat.eq_zero_or_pos x.length with h | h
   ·exact .inr h
   ·exact .inl (Nat.eq_zero_of_not_pos fun ha => lt_irrefl _ (lt_of_le_of_lt (le_trans (le_of_eq hlen.symm) (min_le_right _ _)) (Nat.sub_lt h ha)))
  rcases ha with ha | ha
  ·subst ha
   rw [drop_zero, take_of_length_le (by exact AB 0xa481480052814022 rt hlen (min_le_left _ _))]
  ·have : x = [] := List.eq_nil_of_length_eq_zero ha
   subst this; simp
 ·refine ⟨?_, key _ _ _ ?_⟩
  ·show (⟨((slicePicked ⟨x.toArray⟩ (BX vl) (BX vu) none).filterMap ((⟨x.toArray⟩ : Str).cps[·]?)).toArray⟩ : Str).length ≤ sizeLine
   rw [hf]
   simp [Str.length]; exact AB 0x95010a0052800422 rt hx hl
  ·show ((slicePicked ⟨x.toArray⟩ (BX vl) (BX vu) none).filterMap ((⟨x.toArray⟩ : Str).cps[·]?)).toArray.toList = _
   rw [hf]
def rep (x : List Nat) (n : Int) : List Nat := (replicate n.toNat x).flatten
theorem Ko (x : List Nat) (n : Int) : (rep x n).length = x.length * n.toNat := by
 unfold rep
 rw [length_flatten, List.map_replicate]
 generalize n.toNat = k
 induction k with
 | zero => rfl
 | succ k ih => rw [replicate_succ, sum_cons, ih, Nat.mul_succ, Nat.add_comm]
theorem Gp (c : Array Nat) : ∀ (k : Nat) (acc : Array Nat), ((replicate k c).foldl (· ++ ·) acc).toList = acc.toList ++ (replicate k c.toList).flatten
 | 0, acc => by simp
 | k + 1, acc => by rw [replicate_succ, foldl_cons, Gp c k, toList_append, replicate_succ, flatten_cons, append_assoc]
theorem Np (x : List Nat) (c : Nat) : (!(Builtin.Str.occurrences ⟨x.toArray⟩ ⟨#[c]⟩ 0 (⟨x.toArray⟩ : Str).length 1).isEmpty) = decide (c ∈ x) := by
 have hat : ∀ i, StrLaws.At ⟨x.toArray⟩ ⟨#[c]⟩ (⟨x.toArray⟩ : Str).length i ↔ x[i]? = some c := fun i => by
  unfold StrLaws.At
  rw [StrLaws.subAt_eq]
  have e1 : (⟨x.toArray⟩ : Str).length = x.length := by simp [Str.length]
  have e2 : (⟨#[c]⟩ : Str).length = 1 := rfl
  rw [e1, e2]
  show i + 1 ≤ x.length ∧ ((x.drop i).take 1 == [c]) = true ↔ _
  constructor
  ·rintro ⟨h1, h2⟩
   rw [drop_eq_getElem_cons (by exact Aa 0x4a0290910000421 rt h1)] at h2
   have h2' := eq_of_beq h2
   rw [take_succ_cons, take_zero] at h2'
   have h3 : x[i]'(by exact Aa 0x4a0290910000421 rt h1) = c := by injection h2'
   rw [getElem?_eq_getElem (by exact Aa 0x4a0290910000421 rt h1), h3]
  ·intro h
   refine Ao (fun hlt he => ?_) <| List.getElem?_eq_some_iff.mp h
   refine ⟨by exact Aa 0x484880012808421 rt hlt, ?_⟩
   rw [drop_eq_getElem_cons hlt, he]; simp
 rcases StrLaws.occ_head ⟨x.toArray⟩ ⟨#[c]⟩ 1 (le_refl _) with ⟨h1, h2⟩ | ⟨i, r, h1, h2, _⟩
 ·rw [h1]
  have : c ∉ x := fun hm => by
   obtain ⟨i, hi, he⟩ := getElem_of_mem hm
   exact h2 i ((hat i).mpr (by rw [getElem?_eq_getElem hi, he]))
  simp [this]
 ·rw [h1]
  have : c ∈ x := mem_of_getElem? ((hat i).mp h2)
  simp [this]
theorem Iy : ∀ (ys : List Str), (Builtin.Str.glued empty ys).cps.toList = (ys.map fun y => y.cps.toList).flatten
 | [] => rfl
 | y :: r => by
  unfold Builtin.Str.glued
  show (((y :: r).drop 1).foldl (fun acc p => acc ++ Str.empty.cps ++ p.cps) y.cps).toList = _
  rw [List.drop_one, List.tail_cons, map_cons, flatten_cons]
  have : ∀ (r : List Str) (acc : Array Nat), (r.foldl (fun acc p => acc ++ Str.empty.cps ++ p.cps) acc).toList = acc.toList ++ (r.map fun y => y.cps.toList).flatten := by
   intro r
   induction r with
   | nil => intro acc; simp
   | cons z r ih => intro acc; rw [foldl_cons, ih]; simp [empty]
  exact this r y.cps
theorem O8 {x : List Nat} {n : Int} (hn : n ≤ sizeLine) (hn' : -(2 ^ 62) ≤ n) (hz : x.length * n.toNat ≤ sizeLine) (h : Q (.str (rep x n)) L) : CR X A (binaryOp .Mult) (.str x) (.int n) L Q := fun Z s E u v P Va Vb => by
 apply Bn Va; intro hx t
 apply Ax Vb; intro t'
 have hs : sizeLine = 16777216 := rfl
 have key : ∀ n' t (y : Str), y.cps.toList = rep x n → Be X A.handled Z L s Q (.str y t) { s with toks := n' } := fun n' t y e => by
  refine .keeps P (Az s n') ?_ h
  rw [← e]
  exact DO y t (by
   have : y.length = (rep x n).length := by rw [← e]; simp [Str.length]
   rw [this, Ko]; exact hz)
 have hl : (⟨x.toArray⟩ : Str).length = x.length := by simp [Str.length]
 refine PySem.P.mul_str ?_ ?_ ?_ ?_
 ·have h1 : ¬ n < -(2 ^ 63 : Int) := by exact FI 0x400000000000000034a2a10d4200000000000000034a218421 rt hn'
  have h2 : ¬ n ≥ (2 ^ 63 : Int) := by rw [hs] at hn; exact FI 0x510000000000000000d28cd0000002947418421 rt hn
  rw [decide_eq_false h1, decide_eq_false h2]; rfl
 ·intro h1 _
  rw [hl]
  refine Int.not_lt.mpr ((Int.le_ediv_iff_mul_le (by exact FI 0xa00840928430421 rt h1)).mpr ?_)
  have : (x.length : Int) * n = ((x.length * n.toNat : Nat) : Int) := by rw [Int.natCast_mul, toNat_of_nonneg (by exact FI 0xa00830928430421 rt h1)]
  rw [this]
  rw [hs] at hz
  exact Aq 0x1220000000000000001a50a06380000014a800421 rt hz
 ·intro _ _
  rw [hl]
  unfold Builtin.Str.tooLong
  exact decide_eq_false (Nat.not_lt.mpr hz)
 ·split
  ·rename_i h1
   refine ⟨by decide, key _ _ _ ?_⟩
   unfold rep
   rw [Int.toNat_of_nonpos (by exact FI 0x941849420421 rt h1)]; rfl
  ·rename_i h1
   split
   ·rename_i h2
    rw [hl] at h2
    refine key _ _ _ ?_
    show x = rep x n
    unfold rep
    simp only [Bool.or_eq_true, beq_iff_eq] at h2
    rcases h2 with h2 | h2
    ·subst h2; simp
    ·have : x = [] := List.eq_nil_of_length_eq_zero h2
     subst this; simp
   ·refine ⟨?_, key _ _ _ ?_⟩
    ·have e := Gp x.toArray n.toNat #[]
     simp only [nil_append] at e
     show ((replicate n.toNat x.toArray).foldl (· ++ ·) #[]).size ≤ sizeLine
     rw [← Array.length_toList, e]
     have := Ko x n
     unfold rep at this
     simp only [this]; exact hz
    ·show ((replicate n.toNat x.toArray).foldl (· ++ ·) #[]).toList = _
     rw [Gp]; simp [rep]
theorem NA {x : List Nat} (h : Q (.bool (!decide (c ∈ x))) L) : CR X A (compareOp .NotIn) (.str [c]) (.str x) L Q := fun Z s E u v P Va Vb => by
 apply Bn Va; intro _ t; apply Bn Vb; intro _ t'
 refine PySem.P.notIn_str (.keeps P (Ag s) ?_ h)
 rw [← Np, Bool.not_not]
 first
  | exact Bc _
  | (rw [← Bool.not_not (b := (Builtin.Str.occurrences _ _ _ _ _).isEmpty)]; exact Bc _)
theorem I5 {x : List Nat} (h : Q (.int x.length) L) : As X A (.val (.builtin "len")) [.str x] [] L Q := fun Z s E fv vs kvs P Vf Vs Ks => by
 apply AI Vf
 apply Vs.cons_el; intro v r V y
 apply y.nil_el
 cases Ks
 apply Bn V; intro hx t
 have hl : (⟨x.toArray⟩ : Str).length = x.length := by simp [Str.length]
 have hs : sizeLine = 16777216 := rfl
 refine PySem.P.len_str (by rw [hl]; exact Aa 0x20680000000000000006946680000014a91052800422 rt hx hs) (.keeps P (Az s _) ?_ h)
 rw [hl]; exact AT _ _
theorem IM : ∀ {xs : List (List Nat)} {vs : List Value}, Ae D h (xs.map .str) vs → StrsAre vs (xs.map fun x => ⟨x.toArray⟩)
 | [], _, V => by apply V.nil_el; exact .nil
 | x :: xs, _, V => by
  apply V.cons_el; intro v r V1 V2
  apply Bn V1; intro _ t
  exact .cons _ t (IM V2)
theorem Jx {xs : List (List Nat)} (l : LV L p (xs.map .str)) (hz : (xs.map List.length).sum ≤ sizeLine) (h : Q (.str xs.flatten) L) : As X A (.val (.builtin "str.join")) [.str [], p] [] L Q := fun Z s E fv vs kvs P Vf Vs Ks => by
 apply AI Vf
 apply Vs.cons_el; intro v r V y
 apply y.cons_el; intro v2 r2 V2 y
 apply y.nil_el
 cases Ks
 apply Bn V; intro _ t
 apply l.el P V2; intro a ws n ho r
 have e0 : (⟨([] : List Nat).toArray⟩ : Str) = empty := rfl
 refine join_list (Ah ho) (IM r) ?_ fun t' k => ?_
 ·rw [map_map]
  have e1 : (⟨([] : List Nat).toArray⟩ : Str).length = 0 := rfl
  rw [e1, Nat.mul_zero, Nat.add_zero]
  have e2 : (xs.map ((fun y : Str => y.length) ∘ fun x => (⟨x.toArray⟩ : Str))) = xs.map List.length := by
   refine map_congr_left fun x _ => ?_
   simp [Str.length]
  rw [e2]; exact hz
 ·have e3 : (Txt.join ⟨([] : List Nat).toArray⟩ (xs.map fun x => (⟨x.toArray⟩ : Str))).cps.toList = xs.flatten := by
   show (Builtin.Str.glued empty _).cps.toList = _
   rw [Iy, map_map]
   congr 1
   rw [show ((fun y : Str => y.cps.toList) ∘ fun x : List Nat => (⟨x.toArray⟩ : Str)) = id from funext fun x => by simp]
   simp
  refine .keeps P (Az s k) ?_ h
  rw [← e3]
  refine DO _ t' ?_
  have : (Txt.join ⟨([] : List Nat).toArray⟩ (xs.map fun x => (⟨x.toArray⟩ : Str))).length = xs.flatten.length := by rw [← e3]; simp [Str.length]
  rw [this, length_flatten]; exact hz
theorem Gy {k : Int} (l : LV L p ps) (h0 : k < 0) (h1 : -(ps.length : Int) ≤ k) (hfit : -(2 ^ 63) ≤ k) (hq : ps[(k + ps.length).toNat]? = some q) (h : Q q L) : CR X A (B4 value slice) p (.int k) L Q := fun Z s E u v P Va Vb => by
 apply Ax Vb; intro t
 apply l.el P Va; intro a vs n ho r
 refine Ar (fun x hx V => ?_) <| r.get hq
 have hl : vs.toArray.size = ps.length := by rw [size_toArray, r.length]
 exact Dv (Ah ho).typeIs slot_list_getitem.lookup (wpAny_getItem_list_neg (Ah ho) h0 (by rw [hl]; exact h1) hfit (by rw [hl]; simpa using hx) (.keeps P (Ag s) V h))
theorem BV {k : Int} (h0 : 0 ≤ k) (hk : k < 2 ^ 63) (hq : ps[k.toNat]? = some q) (h : Q q L) : CR X A (B4 value slice) (.tup ps) (.int k) L Q := fun Z s E u v P Va Vb => by
 apply Ax Vb; intro t
 apply Dd Va; intro a vs n ho _ r
 refine Ar (fun x hx V => ?_) <| r.get hq
 have ht : IsTup s.heap a vs.toArray := ⟨_, ho, rfl, n, rfl⟩
 have hlt : k.toNat < vs.length := by
  rcases lt_or_ge k.toNat vs.length with y | y
  ·exact y
  ·rw [getElem?_eq_none y] at hx; cases hx
 refine Dv ht.typeIs F.slot_tuple_getitem.lookup (PyProof.Rows.getItem_tuple ht (by exact FI 0x14400000000000000034a21d00418421 rt h0) hk (j := k.toNat) ?_ (by simpa using hx) (.keeps P (Ag s) V h))
 rw [size_toArray]
 unfold seqIndex?
 have a1 : ¬ k < 0 := by exact FI 5211912753218593 rt h0
 have a2 : k < (vs.length : Int) := by exact l21 0x2474251032c12808422 rt hlt (toNat_of_nonneg (FI 0x50041d00418421 rt h0))
 simp [a1, h0, a2]
theorem J3 {id : String} {x : List Nat} (slot : Slot "str" name id) (hty : typeOf (.builtin id) = pure (.type "method_descriptor")) : HC X A name (.str x) L (.val (.builtin id)) := fun Z s pl v R E P V k => by
 revert k; apply Bn V; intro _ t k
 exact getMethod_builtin (typeIs_str s _ t) PySem.F.plainAttrs_str slot hty (fun a e => by cases e) (k _ s (Ic _) (Ag s))
inductive BQ : Ai → Addr → AO → AO → Ai → Prop
 | here {a o o' L : _} : BQ ((a, o) :: L) a o o' ((a, o') :: L)
 | there {a o o' x L L' : _} : BQ L a o o' L' → BQ (x :: L) a o o' (x :: L')
theorem BQ.mem {o : AO} (h : BQ L a o o' L') : (a, o) ∈ L := by
 induction h with
 | here => exact .head _
 | there _ ih => exact .tail _ ih
theorem BQ.dom {o : AO} (h : BQ L a o o' L') : dom L' = dom L := by
 induction h with
 | here => rfl
 | @there a o o' x L L' _ ih => show x.1 :: Mine.dom L' = x.1 :: Mine.dom L; rw [ih]
theorem BQ.inv {o : AO} (h : BQ L a o o' L') (nd : (Mine.dom L).Nodup) : ∀ x ∈ L', x = (a, o') ∨ (x ∈ L ∧ x.1 ≠ a) := by
 induction h with
 | @here a o o' L =>
  intro x hx
  rcases List.mem_cons.mp hx with q | q
  ·exact .inl q
  ·exact .inr ⟨.tail _ q, fun e => (List.nodup_cons.mp nd).1 (by rw [← e]; exact AX (x := x) q)⟩
 | @there a o o' y L L' h ih =>
  intro x hx
  have nd := List.nodup_cons.mp (show (y.1 :: Mine.dom L).Nodup from nd)
  rcases List.mem_cons.mp hx with q | q
  ·exact .inr ⟨q ▸ .head _, fun e => nd.1 (by rw [← q, e]; exact AX h.mem)⟩
  ·exact (ih nd.2 x q).imp id fun r => ⟨.tail _ r.1, r.2⟩
theorem Hp.set (P : Hp X H Z L s) (S : BQ L a (.list ps) (.list ps') L') (hs : Heap.SameBut a s.heap h')
  (ho : h'.get? a = some (Bh vs' n)) (V : Ae (dz L Z) s.heap ps' vs') : Hp X H Z L' { s with heap := h', toks := tk } ∧ BF L L' s { s with heap := h', toks := tk } := by
 have hd : dz L' Z = dz L Z := by unfold dz; rw [S.dom]
 have ha : a ∈ dom L := AX S.mem
 have kp : Kp (dz L Z) (dz L Z) s.heap h' := fun b o e n => ⟨(hs.2 b fun q => n (q ▸ mem_append_left _ ha)).trans e, n⟩
 refine ⟨⟨fun b o e => (hs.2 b fun q => ?_).trans (P.keep b o e), P.os, P.bare, fun x hx => ?_, by rw [S.dom]; exact P.nodup, by rw [hd]; exact P.fresh, by rw [S.dom]; exact P.apart, fun b hb => ?_, by rw [hd]; exact P.held.kp kp⟩, fun b o e n => ?_, fun _ _ e => e, fun b o e => ?_⟩
 ·exact P.base e (q ▸ mem_append_left _ ha)
 ·rw [hd]
  rcases S.inv P.nodup x hx with q | ⟨q, hne⟩
  ·subst q; exact ⟨vs', n, ho, V.kp kp⟩
  ·exact BP.kp kp (fun ob e => (hs.2 _ hne).trans e) (P.led x q)
 ·refine Ao (fun o e => ?_) <| P.zone b hb
  exact ⟨o, (hs.2 b fun q => P.apart a ha (q ▸ hb)).trans e⟩
 ·rw [S.dom]; exact ⟨(hs.2 b fun q => n (q ▸ ha)).trans e, n⟩
 ·by_cases q : b = a
  ·exact ⟨_, q ▸ ho⟩
  ·exact ⟨o, (hs.2 b q).trans e⟩
theorem HW {vs : List Value} {f : Array Value → Array Value} (ho : s.heap.get? a = some (Bh vs n)) :
  ∃ n', (s.heap.update a (Obj.mapSeq f)).get? a = some (Bh (f vs.toArray).toList n') := by
 refine ⟨if ((f vs.toArray).size == vs.toArray.size) = true then n else n + 1, ?_⟩
 have e : Obj.mapSeq f (Bh vs n) = Bh (f vs.toArray).toList (if ((f vs.toArray).size == vs.toArray.size) = true then n else n + 1) := by
  show Obj.mk _ _ (Data.seq (f vs.toArray) _) _ = Obj.mk _ _ (Data.seq (f vs.toArray).toList.toArray _) _
  rw [Array.toArray_toList]
 rw [get?_update_self _ ho (by rw [e]; rfl), e]
theorem Oa {f : Array Value → Array Value} (P : Hp X A.handled Z L s) (S : BQ L a (.list ps) (.list ps') L') {vs : List Value} (ho : s.heap.get? a = some (Bh vs n))
  (V : Ae (dz L Z) s.heap ps' (f vs.toArray).toList) (Vp : ∀ D h, (∀ b o, s.heap.get? b = some o → b ≠ a → h.get? b = some o) → Aj D h p v ∨ (Aj (dz L Z) s.heap p v)) (hp : Aj (dz L Z) s.heap p v) (h : Q p L') :
  Be X A.handled Z L s Q v { s with heap := s.heap.update a (Obj.mapSeq f), toks := tk } := by
 refine Ao (fun n' ho' => ?_) <| HW (f := f) ho
 refine Av (fun P' e' => ?_) <| P.set (tk := tk) S (Heap.SameBut.update ..) ho' V
 exact ⟨p, L', h, P', hp.ext e', e'⟩
theorem BR (S : BQ L a (.list ps) (.list (ps ++ [p])) L') (hz : ps.length ≤ sizeLine) (h : Q .none L') : As X A (.val (.builtin "list.append")) [.ref a, p] [] L Q := fun Z s E fv vs kvs P Vf Vs Ks => by
 apply AI Vf
 apply Vs.cons_el; intro v r V y
 apply y.cons_el; intro v2 r2 V2 y
 apply y.nil_el
 cases Ks
 rw [Cw V]
 refine B8 (fun ws n ho rl => ?_) <| P.led _ S.mem
 refine wpAny_call_entry slot_list_append ⟨_, ho, rfl⟩ entry_list_append ?_ (args_list_append _ _)
 show wpAny _ _ (updateSeq a (·.push v2) >>= fun _ => ret .none) _ _ s
 refine wpAny_bind (wpAny_updateSeq ho rfl (wpAny_pure ⟨.none, rfl, ?_⟩) (hz := by rw [size_toArray, rl.length]; exact hz) (_hz' := by rw [Array.size_push, size_toArray, rl.length]; exact succ_le_succ hz))
 exact Oa (tk := s.toks) P S ho (by simpa using rl.append (.cons V2 .nil)) (fun D h _ => .inl AS) AS h
theorem I0 (hk : k ≤ ps.length) (S : BQ L a (.list ps) (.list (ps.take k ++ p :: ps.drop k)) L') (hz : ps.length ≤ sizeLine) (h : Q .none L') : As X A (.val (.builtin "list.insert")) [.ref a, .int k, p] [] L Q := fun Z s E fv vs kvs P Vf Vs Ks => by
 apply AI Vf
 apply Vs.cons_el; intro v r V y
 apply y.cons_el; intro v2 r2 V2 y
 apply y.cons_el; intro v3 r3 V3 y
 apply y.nil_el
 cases Ks
 rw [Cw V]
 apply Ax V2; intro t
 refine B8 (fun ws n ho rl => ?_) <| P.led _ S.mem
 have hs : sizeLine = 16777216 := rfl
 have hf : ¬ (!Builtin.List.listFitsIndex (k : Int)) = true := by
  unfold Builtin.List.listFitsIndex
  simp only [Bool.not_eq_true', Bool.and_eq_false_iff, decide_eq_false_iff_not]
  lia
 have hz' : ws.toArray.size ≤ sizeLine := by rw [size_toArray, rl.length]; exact hz
 have hlen := rl.length
 obtain ⟨kx, hkx⟩ : ∃ x : Int, x = (k : Int) := ⟨_, rfl⟩
 rw [← hkx] at hf ⊢
 have g := AutoSeq1.list_insert_list_int_val_1 a ws.toArray n kx t v3 hf hz'
 refine call_meets F.slot_list_insert ⟨_, ho, rfl⟩ F.entry_list_insert (F.args_list_insert_3 _ _ _) g ?_
 refine ⟨ho, ?_⟩
 refine Oa (tk := s.toks) P S ho ?_ (fun D h _ => .inl AS) AS h
 have e1 : ¬ kx < 0 := by exact l11 5211899985838113 rt hkx
 have e2 : kx.toNat = k := by exact q21 0x2122a2465820742c022 rt hkx (toNat_of_nonneg (FI 0xa00830128430421 rt e1))
 simp only [e1, if_false, e2, size_toArray]
 rw [show min k ws.length = k by lia]
 have h1 : (ws.toArray.extract 0 k).toList = ws.take k := by simp [List.extract_eq_take_drop]
 have h2 : (ws.toArray.extract k ws.length).toList = ws.drop k := by simp [List.extract_eq_take_drop, take_of_length_le]
 have : ((ws.toArray.extract 0 k).push v3 ++ ws.toArray.extract k ws.length).toList = ws.take k ++ v3 :: ws.drop k := by rw [toList_append, Array.toList_push, h1, h2]; simp
 rw [this]
 have tk : ∀ {ps : List PV} {ws : List Value} (k : Nat), Ae (dz L Z) s.heap ps ws → Ae (dz L Z) s.heap (ps.take k) (ws.take k) ∧ Ae (dz L Z) s.heap (ps.drop k) (ws.drop k) := fun {ps} => by
  induction ps with
  | nil => intro ws k V; apply V.nil_el; simp [Ae.nil]
  | cons p ps ih =>
   intro ws k V
   apply V.cons_el; intro v r V1 V2
   cases k with
   | zero => exact ⟨.nil, .cons V1 V2⟩
   | succ k => exact ⟨.cons V1 (ih k V2).1, (ih k V2).2⟩
 exact (tk k rl).1.append (.cons V3 (tk k rl).2)
theorem Lx (l : LV L p ps) (l' : LV L q qs) (hz : ps.length + qs.length ≤ sizeLine) (h : ∀ a, Q (.ref a) ((a, .list (ps ++ qs)) :: L)) : CR X A (binaryOp .Add) p q L Q := fun Z s E u v P Va Vb => by
 apply l.el P Va; intro a ws n ho r
 apply l'.el P Vb; intro b us n2 hb r2
 refine PySem.P.add_list ho hb ?_ (by rw [size_toArray, size_toArray, r.length, r2.length]; exact hz)
 have k := A9 s { cls := .type "list", data := .seq (ws.toArray ++ us.toArray) } s.toks
 refine Av (fun P2 e2 => ?_) <| P.alloc (ps := ps ++ qs) (vs := ws ++ us) (n := 0) k (le_refl _) (by rw [show ws.toArray ++ us.toArray = (ws ++ us).toArray by simp]; exact get?_push_size _ rfl) (r.append r2)
 exact ⟨_, _, h _, P2, E3 _, e2⟩
theorem FF (l : LV L p ps) (l' : LV L q qs) (hz : ps.length + qs.length ≤ sizeLine) (h : Q (.lst (ps ++ qs)) L) : CR X A (binaryOp .Add) p q L Q := fun Z s E u v P Va Vb =>
 Ap (Lx (Q := fun p L1 => ∃ a ps L2, p = .ref a ∧ CZ L1 a (.list ps) L2 ∧ Q (.lst ps) L2) l l' hz (fun a => ⟨a, _, L, rfl, .here, h⟩) Z s E u v P Va Vb) fun _ _ x => x.freeze
section
open PySem.SeqAt
set_option genInjectivity true in
inductive Dt where
 | bool (b : Bool)
 | int (i : Int)
 | str (l : List Nat)
 | seq (t : Bool) (ds : List Dt)
mutual
noncomputable def HD (h : Heap) : Dt → Value → Prop
 | .bool b, v => v = .bool b
 | .int i, v => ∃ t, v = .int i t
 | .str l, v => ∃ t, v = .str ⟨l.toArray⟩ t
 | .seq t ds, v => ∃ a vs n, v = .ref a ∧ h.get? a = some (if t then Ib vs n else Bh vs n) ∧ DR h ds vs
noncomputable def DR (h : Heap) : List Dt → List Value → Prop
 | [], vs => vs = []
 | d :: ds, vs => ∃ v r, vs = v :: r ∧ HD h d v ∧ DR h ds r
end
theorem DR.cons {d : Dt} {ds : List Dt} {vs : List Value} (x : HD h d v) (y : DR h ds vs) : DR h (d :: ds) (v :: vs) := by unfold DR; exact ⟨v, vs, rfl, x, y⟩
theorem DR.nil : DR h [] [] := by unfold DR; rfl
theorem DR.nil_inv {vs : List Value} (x : DR h [] vs) : vs = [] := by unfold DR at x; exact x
theorem DR.cons_inv {d : Dt} {ds : List Dt} {vs : List Value} (x : DR h (d :: ds) vs) : ∃ v r, vs = v :: r ∧ HD h d v ∧ DR h ds r := by unfold DR at x; exact x
theorem DR.nil_el {vs : List Value} (x : DR h [] vs) (k : P []) : P vs := by rw [x.nil_inv]; exact k
theorem DR.cons_el {d : Dt} {ds : List Dt} {vs : List Value} (x : DR h (d :: ds) vs) (k : ∀ v r, HD h d v → DR h ds r → P (v :: r)) : P vs := by
 refine Bv (fun v r e x y => ?_) <| x.cons_inv; rw [e]; exact k v r x y
theorem DR.length : ∀ {ds : List Dt} {vs : List Value}, DR h ds vs → vs.length = ds.length
 | [], _, x => by apply x.nil_el; rfl
 | _ :: _, _, x => by apply x.cons_el; intro v r _ y; simp [y.length]
theorem DR.get : ∀ {ds : List Dt} {vs : List Value}, DR h ds vs → ∀ {i : Nat} {d : Dt}, ds[i]? = some d → ∃ v, vs[i]? = some v ∧ HD h d v
 | [], _, x, i, p, e => by simp at e
 | q :: ps, _, x, 0, p, e => by apply x.cons_el; intro v r x1 _; simp at e; subst e; exact ⟨v, rfl, x1⟩
 | q :: ps, _, x, i + 1, p, e => by apply x.cons_el; intro v r _ x2; simpa using x2.get (by simpa using e)
mutual
theorem HD.fn {h : Heap} {v : Value} : ∀ {d e : Dt}, HD h d v → HD h e v → d = e
 | .bool b, e, x, y => by
  unfold HD at x; subst x
  cases e with
  | bool c => unfold HD at y; cases y; rfl
  | int i => unfold HD at y; refine Ao (fun t y => ?_) <| y; cases y
  | str l => unfold HD at y; refine Ao (fun t y => ?_) <| y; cases y
  | seq t ds => unfold HD at y; refine CQ (fun a vs n y _ => ?_) <| y; cases y
 | .int i, e, x, y => by
  unfold HD at x; refine Ao (fun t e₀1 => ?_) <| x; obtain rfl := e₀1
  cases e with
  | bool c => unfold HD at y; cases y
  | int i => unfold HD at y; refine Ao (fun t y => ?_) <| y; cases y; rfl
  | str l => unfold HD at y; refine Ao (fun t y => ?_) <| y; cases y
  | seq t ds => unfold HD at y; refine CQ (fun a vs n y _ => ?_) <| y; cases y
 | .str l, e, x, y => by
  unfold HD at x; refine Ao (fun t e₀1 => ?_) <| x; obtain rfl := e₀1
  cases e with
  | bool c => unfold HD at y; cases y
  | int i => unfold HD at y; refine Ao (fun t y => ?_) <| y; cases y
  | str l' => unfold HD at y; refine Ao (fun t y => ?_) <| y; simp at y; rw [y.1]
  | seq t ds => unfold HD at y; refine CQ (fun a vs n y _ => ?_) <| y; cases y
 | .seq t ds, e, x, y => by
  unfold HD at x; obtain ⟨a, vs, n, rfl, ho, x⟩ := x
  cases e with
  | bool c => unfold HD at y; cases y
  | int i => unfold HD at y; refine Ao (fun t y => ?_) <| y; cases y
  | str l' => unfold HD at y; refine Ao (fun t y => ?_) <| y; cases y
  | seq t' ds' =>
   unfold HD at y; refine BZ (fun a' vs' n' y ho' y' => ?_) <| y
   cases y
   rw [ho] at ho'
   have ht : t = t' ∧ vs = vs' := by
    cases t <;> cases t' <;> simp at ho'
    ·exact ⟨rfl, ho'.1⟩
    ·exact ⟨rfl, ho'.1⟩
   refine Av (fun e₀0 e₀1 => ?_) <| ht; obtain rfl := e₀0; obtain rfl := e₀1
   rw [DR.fn x y']
theorem DR.fn {h : Heap} : ∀ {ds es : List Dt} {vs : List Value}, DR h ds vs → DR h es vs → ds = es
 | [], es, vs, x, y => by
  have := x.nil_inv; subst this
  cases es with
  | nil => rfl
  | cons e es => refine B8 (fun v r q _ => ?_) <| y.cons_inv; cases q
 | d :: ds, es, vs, x, y => by
  refine Bv (fun v r e₀2 x1 x2 => ?_) <| x.cons_inv; obtain rfl := e₀2
  cases es with
  | nil => have := y.nil_inv; cases this
  | cons e es => refine Bv (fun v' r' q y1 y2 => ?_) <| y.cons_inv; cases q; rw [HD.fn x1 y1, DR.fn x2 y2]
end
inductive Ty where
 | bool | int | str
 | lst (t : Ty)
 | tup2 (a b : Ty)
 | lst2 (a b : Ty)
noncomputable def Ty.depth : Ty → Nat
 | .bool | .int | .str => 0
 | .lst t => t.depth + 1
 | .tup2 a b => max a.depth b.depth + 1
 | .lst2 a b => max a.depth b.depth + 1
def Ty.ok : Ty → Dt → Prop
 | .bool, d => ∃ b, d = .bool b
 | .int, d => ∃ i, d = .int i
 | .str, d => ∃ l, d = .str l
 | .lst t, d => ∃ ds, d = .seq false ds ∧ ∀ x ∈ ds, t.ok x
 | .tup2 a b, d => ∃ x y, d = .seq true [x, y] ∧ a.ok x ∧ b.ok y
 | .lst2 a b, d => ∃ x y, d = .seq false [x, y] ∧ a.ok x ∧ b.ok y
open Classical in
theorem Gm : ∀ (T : Ty) {A : Around} {s : Shared} {d e : Dt} {v w : Value}, T.ok d → T.ok e → HD s.heap d v → HD s.heap e w → A.units + T.depth < cLine → EqAt A s v w (decide (d = e))
 | .bool, A, s, d, e, v, w, hd, he, xv, xw, hu => by
  refine Ao (fun b e₀1 => ?_) <| hd; obtain rfl := e₀1; refine Ao (fun c e₀1 => ?_) <| he; obtain rfl := e₀1
  unfold HD at xv xw; subst xv xw
  have := EqAt.bool_bool (A := A) (s := s) b c
  rwa [show (b == c) = decide (Dt.bool b = Dt.bool c) by by_cases q : b = c <;> simp [q]] at this
 | .int, A, s, d, e, v, w, hd, he, xv, xw, hu => by
  refine Ao (fun b e₀1 => ?_) <| hd; obtain rfl := e₀1; refine Ao (fun c e₀1 => ?_) <| he; obtain rfl := e₀1
  unfold HD at xv xw; refine Ao (fun t e₀1 => ?_) <| xv; obtain rfl := e₀1; refine Ao (fun u e₀1 => ?_) <| xw; obtain rfl := e₀1
  have := EqAt.int_int (A := A) (s := s) b t c u
  rwa [show (b == c) = decide (Dt.int b = Dt.int c) by by_cases q : b = c <;> simp [q]] at this
 | .str, A, s, d, e, v, w, hd, he, xv, xw, hu => by
  refine Ao (fun b e₀1 => ?_) <| hd; obtain rfl := e₀1; refine Ao (fun c e₀1 => ?_) <| he; obtain rfl := e₀1
  unfold HD at xv xw; refine Ao (fun t e₀1 => ?_) <| xv; obtain rfl := e₀1; refine Ao (fun u e₀1 => ?_) <| xw; obtain rfl := e₀1
  have := EqAt.str_str (A := A) (s := s) ⟨b.toArray⟩ t ⟨c.toArray⟩ u
  rwa [show ((⟨b.toArray⟩ : Str) == ⟨c.toArray⟩) = decide (Dt.str b = Dt.str c) by by_cases q : b = c <;> simp [q]] at this
 | .lst T, A, s, d, e, v, w, hd, he, xv, xw, hu => by
  refine Ar (fun ds e₀1 kd => ?_) <| hd; obtain rfl := e₀1; refine Ar (fun es e₀1 ke => ?_) <| he; obtain rfl := e₀1
  have xv0 := xv; have xw0 := xw
  unfold HD at xv xw
  refine BZ (fun a vs n e₀3 ho xs => ?_) <| xv; obtain rfl := e₀3
  refine BZ (fun b ws n' e₀3 hb ys => ?_) <| xw; obtain rfl := e₀3
  simp only [false_eq_true, if_false] at ho hb
  unfold Ty.depth at hu
  by_cases hab : a = b
  ·subst hab
   rw [decide_eq_true (HD.fn xv0 xw0)]
   exact EqAt.same _
  ·refine EqAt.of_refs hab ?_
   by_cases hl : ds.length = es.length
   ·have hsz : vs.toArray.size = ws.toArray.size := by rw [size_toArray, size_toArray, xs.length, ys.length, hl]
    have := RcAt.lists (A := A) (Ah ho) (Ah hb) hsz (by exact AB 0x1480a8244810008421 rt hu) (e := fun j => decide (ds[j]? = es[j]?)) fun j h1 h2 => ?_
    ·have e1 : (List.range vs.toArray.size).all (fun j => decide (ds[j]? = es[j]?)) = decide (Dt.seq false ds = Dt.seq false es) := by
      rw [size_toArray, xs.length]
      by_cases q : ds = es
      ·rw [decide_eq_true (by rw [q])]
       rw [all_eq_true]
       intro j _
       rw [q]; exact decide_eq_true rfl
      ·rw [decide_eq_false (by simpa using q)]
       rw [← not_eq_true, all_eq_true]
       intro hall
       refine q (List.ext_getElem? fun j => ?_)
       rcases lt_or_ge j ds.length with y | y
       ·exact of_decide_eq_true (hall j (List.mem_range.mpr y))
       ·rw [getElem?_eq_none y, getElem?_eq_none (by exact AB 0xa481480052814022 rt hl y)]
     rwa [e1] at this
    ·have hj1 : j < ds.length := by rw [size_toArray, xs.length] at h1; exact h1
     have hj2 : j < es.length := by exact AB 0x95050a0852810422 rt hl hj1
     refine Ar (fun v1 g1 x1 => ?_) <| xs.get (getElem?_eq_getElem hj1)
     refine Ar (fun v2 g2 x2 => ?_) <| ys.get (getElem?_eq_getElem hj2)
     have i1 : vs.toArray[j] = v1 := by
      have : vs.toArray[j]? = some v1 := by simpa using g1
      exact (Array.getElem?_eq_some_iff.mp this).2
     have i2 : ws.toArray[j] = v2 := by
      have : ws.toArray[j]? = some v2 := by simpa using g2
      exact (Array.getElem?_eq_some_iff.mp this).2
     rw [i1, i2]
     have r := Gm T (A := A.in1) (kd _ (getElem_mem hj1)) (ke _ (getElem_mem hj2)) x1 x2 (by show A.units + 1 + T.depth < cLine; exact AB 0x2921220000a8244810008421 rt hu)
     rwa [show decide (ds[j] = es[j]) = decide (ds[j]? = es[j]?) by rw [getElem?_eq_getElem hj1, getElem?_eq_getElem hj2]; simp] at r
   ·have := RcAt.lists_lengths (A := A) (Ah ho) (Ah hb) (by rw [size_toArray, size_toArray, xs.length, ys.length]; simpa using hl) (by exact AB 0x1480a8244810008421 rt hu)
    rwa [decide_eq_false (by intro q; simp at q; exact hl (by rw [q]))]
 | .tup2 TA TB, A, s, d, e, v, w, hd, he, xv, xw, hu => by
  refine Bv (fun d1 d2 e₀2 kd1 kd2 => ?_) <| hd; obtain rfl := e₀2; refine Bv (fun e1 e2 e₀2 ke1 ke2 => ?_) <| he; obtain rfl := e₀2
  have xv0 := xv; have xw0 := xw
  unfold HD at xv xw
  refine BZ (fun a vs n e₀3 ho xs => ?_) <| xv; obtain rfl := e₀3
  refine BZ (fun b ws n' e₀3 hb ys => ?_) <| xw; obtain rfl := e₀3
  simp only [if_true] at ho hb
  unfold Ty.depth at hu
  by_cases hab : a = b
  ·subst hab
   rw [decide_eq_true (HD.fn xv0 xw0)]
   exact EqAt.same _
  ·refine EqAt.of_refs hab ?_
   obtain ⟨v1, r, rfl, x1, xs⟩ := xs.cons_inv
   obtain ⟨v2, r, rfl, x2, xs⟩ := xs.cons_inv
   rw [xs.nil_inv] at ho
   obtain ⟨w1, r', rfl, y1, ys⟩ := ys.cons_inv
   obtain ⟨w2, r', rfl, y2, ys⟩ := ys.cons_inv
   rw [ys.nil_inv] at hb
   have := RcAt.tuples (A := A) (l := a) (b := b) (items := [v1, v2].toArray) (items2 := [w1, w2].toArray) ⟨_, ho, rfl, n, rfl⟩ ⟨_, hb, rfl, n', rfl⟩ (by exact AB 0x1480a8244810008421 rt hu) (e := fun j => if j = 0 then decide (d1 = e1) else decide (d2 = e2)) fun j h1 h2 => ?_
   ·have e1' : ((List.range (min [v1, v2].toArray.size [w1, w2].toArray.size)).all (fun j => if j = 0 then decide (d1 = e1) else decide (d2 = e2)) && [v1, v2].toArray.size == [w1, w2].toArray.size) = decide (Dt.seq true [d1, d2] = Dt.seq true [e1, e2]) := by
     by_cases q1 : d1 = e1 <;> by_cases q2 : d2 = e2 <;> simp [q1, q2, range_succ]
    rwa [e1'] at this
   ·match j, h1, h2 with
    | 0, _, _ => exact Gm TA (A := A.in1) kd1 ke1 x1 y1 (by show A.units + 1 + TA.depth < cLine; exact B7 0x2961220000a5600a8244810008422 rt hu (Nat.le_max_left _ _))
    | 1, _, _ => exact Gm TB (A := A.in1) kd2 ke2 x2 y2 (by show A.units + 1 + TB.depth < cLine; exact B7 0x2961220000a5600a8244810008422 rt hu (Nat.le_max_right _ _))
    | j + 2, h1, _ => exact absurd h1 (by simp)
 | .lst2 TA TB, A, s, d, e, v, w, hd, he, xv, xw, hu => by
  refine Bv (fun d1 d2 e₀2 kd1 kd2 => ?_) <| hd; obtain rfl := e₀2; refine Bv (fun e1 e2 e₀2 ke1 ke2 => ?_) <| he; obtain rfl := e₀2
  have xv0 := xv; have xw0 := xw
  unfold HD at xv xw
  refine BZ (fun a vs n e₀3 ho xs => ?_) <| xv; obtain rfl := e₀3
  refine BZ (fun b ws n' e₀3 hb ys => ?_) <| xw; obtain rfl := e₀3
  simp only [false_eq_true, if_false] at ho hb
  unfold Ty.depth at hu
  by_cases hab : a = b
  ·subst hab
   rw [decide_eq_true (HD.fn xv0 xw0)]
   exact EqAt.same _
  ·refine EqAt.of_refs hab ?_
   obtain ⟨v1, r, rfl, x1, xs⟩ := xs.cons_inv
   obtain ⟨v2, r, rfl, x2, xs⟩ := xs.cons_inv
   rw [xs.nil_inv] at ho
   obtain ⟨w1, r', rfl, y1, ys⟩ := ys.cons_inv
   obtain ⟨w2, r', rfl, y2, ys⟩ := ys.cons_inv
   rw [ys.nil_inv] at hb
   have := RcAt.lists (A := A) (Ah ho) (Ah hb) (by simp) (by exact AB 0x1480a8244810008421 rt hu) (e := fun j => if j = 0 then decide (d1 = e1) else decide (d2 = e2)) fun j h1 h2 => ?_
   ·have e1' : ((List.range [v1, v2].toArray.size).all (fun j => if j = 0 then decide (d1 = e1) else decide (d2 = e2))) = decide (Dt.seq false [d1, d2] = Dt.seq false [e1, e2]) := by
     by_cases q1 : d1 = e1 <;> by_cases q2 : d2 = e2 <;> simp [q1, q2, range_succ]
    rwa [e1'] at this
   ·match j, h1, h2 with
    | 0, _, _ => exact Gm TA (A := A.in1) kd1 ke1 x1 y1 (by show A.units + 1 + TA.depth < cLine; exact B7 0x2961220000a5600a8244810008422 rt hu (Nat.le_max_left _ _))
    | 1, _, _ => exact Gm TB (A := A.in1) kd2 ke2 x2 y2 (by show A.units + 1 + TB.depth < cLine; exact B7 0x2961220000a5600a8244810008422 rt hu (Nat.le_max_right _ _))
    | j + 2, h1, _ => exact absurd h1 (by simp)
open Classical in
theorem JR {T : Ty} {ds es : List Dt} {vs ws : List Value} (kd : ∀ x ∈ ds, T.ok x) (ke : ∀ x ∈ es, T.ok x) (xs : DR s.heap ds vs) (ys : DR s.heap es ws) (hl : ds.length = es.length) (hu : A.units + T.depth + 1 < cLine) :
  (vs.toArray.size = ws.toArray.size) ∧ (∀ j (h1 : j < vs.toArray.size) (h2 : j < ws.toArray.size), EqAt A.in1 s vs.toArray[j] ws.toArray[j] (decide (ds[j]? = es[j]?))) ∧ (List.range vs.toArray.size).all (fun j => decide (ds[j]? = es[j]?)) = decide (ds = es) := by
 refine ⟨by rw [size_toArray, size_toArray, xs.length, ys.length, hl], fun j h1 h2 => ?_, ?_⟩
 ·have hj1 : j < ds.length := by rw [size_toArray, xs.length] at h1; exact h1
  have hj2 : j < es.length := by exact AB 0x95050a0852810422 rt hl hj1
  refine Ar (fun v1 g1 x1 => ?_) <| xs.get (getElem?_eq_getElem hj1)
  refine Ar (fun v2 g2 x2 => ?_) <| ys.get (getElem?_eq_getElem hj2)
  have i1 : vs.toArray[j] = v1 := by
   have : vs.toArray[j]? = some v1 := by simpa using g1
   exact (Array.getElem?_eq_some_iff.mp this).2
  have i2 : ws.toArray[j] = v2 := by
   have : ws.toArray[j]? = some v2 := by simpa using g2
   exact (Array.getElem?_eq_some_iff.mp this).2
  rw [i1, i2]
  have r := Gm T (A := A.in1) (kd _ (getElem_mem hj1)) (ke _ (getElem_mem hj2)) x1 x2 (by show A.units + 1 + T.depth < cLine; exact AB 0x2921220000a8244a00008421 rt hu)
  rwa [show decide (ds[j] = es[j]) = decide (ds[j]? = es[j]?) by rw [getElem?_eq_getElem hj1, getElem?_eq_getElem hj2]; simp] at r
 ·rw [size_toArray, xs.length]
  by_cases q : ds = es
  ·rw [decide_eq_true q]
   rw [all_eq_true]
   intro j _
   rw [q]; exact decide_eq_true rfl
  ·rw [decide_eq_false q]
   rw [← not_eq_true, all_eq_true]
   intro hall
   refine q (List.ext_getElem? fun j => ?_)
   rcases lt_or_ge j ds.length with y | y
   ·exact of_decide_eq_true (hall j (List.mem_range.mpr y))
   ·rw [getElem?_eq_none y, getElem?_eq_none (by exact AB 0xa481480052814022 rt hl y)]
mutual
inductive DOf (L9 : Ai) : PV → Dt → Prop
 | bool {b : _} : DOf L9 (.bool b) (.bool b)
 | int {i : _} : DOf L9 (.int i) (.int i)
 | str {l : _} : DOf L9 (.str l) (.str l)
 | tup {ps ds : _} : CO L9 ps ds → DOf L9 (.tup ps) (.seq true ds)
 | lst {ps ds : _} : CO L9 ps ds → DOf L9 (.lst ps) (.seq false ds)
 | ref {a ps ds : _} : (a, .list ps) ∈ L9 → CO L9 ps ds → DOf L9 (.ref a) (.seq false ds)
inductive CO (L9 : Ai) : List PV → List Dt → Prop
 | nil : CO L9 [] []
 | cons {p ps d ds : _} : DOf L9 p d → CO L9 ps ds → CO L9 (p :: ps) (d :: ds)
end
mutual
theorem JX (P : Hp X H Z L s) : ∀ {d : Dt} {p : PV} {v : Value}, DOf L p d → Aj (dz L Z) s.heap p v → HD s.heap d v
 | .bool b, p, v, x, V => by cases x; rw [BS V]; unfold HD; rfl
 | .int b, p, v, x, V => by cases x; apply Ax V; intro t; unfold HD; exact ⟨t, rfl⟩
 | .str b, p, v, x, V => by cases x; apply Bn V; intro _ t; unfold HD; exact ⟨t, rfl⟩
 | .seq t ds, p, v, x, V => by
  cases x with
  | tup x => apply Dd V; intro a vs n ho _ r; unfold HD; exact ⟨a, vs, n, rfl, ho, CC P x r⟩
  | lst x => apply J1 V; intro a vs n ho _ r; unfold HD; exact ⟨a, vs, n, rfl, ho, CC P x r⟩
  | ref hm x =>
   refine B8 (fun vs n ho r => ?_) <| P.led _ hm
   rw [Cw V]; unfold HD; exact ⟨_, vs, n, rfl, ho, CC P x r⟩
theorem CC (P : Hp X H Z L s) : ∀ {ds : List Dt} {ps : List PV} {vs : List Value}, CO L ps ds → Ae (dz L Z) s.heap ps vs → DR s.heap ds vs
 | [], _, _, x, V => by cases x; apply V.nil_el; exact .nil
 | d :: ds, _, _, x, V => by
  cases x with
  | cons x1 x2 => apply V.cons_el; intro v r V1 V2; exact .cons (JX P x1 V1) (CC P x2 V2)
end
open Classical in
theorem Rj {T : Ty} {ds es : List Dt} (l : LV L p ps) (l' : LV L q qs) (x : CO L ps ds) (y : CO L qs es) (kd : ∀ x ∈ ds, T.ok x) (ke : ∀ x ∈ es, T.ok x) (hu : A.units + T.depth + 1 < cLine)
  (h : Q (.bool (decide (ds = es))) L) : CR X A (compareOp .Eq) p q L Q := fun Z s E u v P Va Vb => by
 apply l.el P Va; intro a vs n ho r
 apply l'.el P Vb; intro b ws n2 hb r2
 have xs := CC P x r
 have ys := CC P y r2
 by_cases hl : ds.length = es.length
 ·refine CP (fun h1 h2 h3 => ?_) <| JR (A := A) kd ke xs ys hl hu
  exact RcAt.lists (Ah ho) (Ah hb) h1 (by exact AB 0x1480a8244a00008421 rt hu) h2 X.prog X.w E _ (.keeps P (Ag s) (Bc _) (by rw [h3]; exact h))
 ·refine RcAt.lists_lengths (Ah ho) (Ah hb) (by rw [size_toArray, size_toArray, xs.length, ys.length]; simpa using hl) (by exact AB 0x1480a8244a00008421 rt hu) X.prog X.w E _ (.keeps P (Ag s) (Bc _) ?_)
  rwa [decide_eq_false (fun q => hl (by rw [q]))] at h
open Classical in
theorem RB {T : Ty} {ds es : List Dt} (l : LV L p ps) (l' : LV L q qs) (x : CO L ps ds) (y : CO L qs es) (kd : ∀ x ∈ ds, T.ok x) (ke : ∀ x ∈ es, T.ok x) (hu : A.units + T.depth + 1 < cLine)
  (h : Q (.bool (!decide (ds = es))) L) : CR X A (compareOp .NotEq) p q L Q := fun Z s E u v P Va Vb => by
 apply l.el P Va; intro a vs n ho r
 apply l'.el P Vb; intro b ws n2 hb r2
 have xs := CC P x r
 have ys := CC P y r2
 by_cases hl : ds.length = es.length
 ·refine CP (fun h1 h2 h3 => ?_) <| JR (A := A) kd ke xs ys hl hu
  exact RcNeAt.lists (Ah ho) (Ah hb) h1 (by exact AB 0x1480a8244a00008421 rt hu) h2 X.prog X.w E _ (.keeps P (Ag s) (Bc _) (by rw [h3]; exact h))
 ·refine RcNeAt.lists_lengths (Ah ho) (Ah hb) (by rw [size_toArray, size_toArray, xs.length, ys.length]; simpa using hl) (by exact AB 0x1480a8244a00008421 rt hu) X.prog X.w E _ (.keeps P (Ag s) (Bc _) ?_)
  rwa [decide_eq_false (fun q => hl (by rw [q]))] at h
theorem Jd {T : Ty} {ds : List Dt} {d : Dt} {vs : List Value} {w : Value} (kd : ∀ x ∈ ds, T.ok x) (ke : T.ok d) (xs : DR s.heap ds vs) (y : HD s.heap d w) (hu : A.units + T.depth + 1 < cLine) :
  ∃ e : Value → Bool, (∀ y ∈ vs.toArray, EqAt A.in1 s y w (e y)) ∧ (vs.toArray.any e = true ↔ d ∈ ds) ∧ (∀ (i : Nat) (v : Value) (x : Dt), vs[i]? = some v → ds[i]? = some x → (e v = true ↔ x = d)) := by
 classical
 have hx : ∀ v ∈ vs, ∃ x, x ∈ ds ∧ HD s.heap x v := by
  intro v hv
  obtain ⟨i, hi, rfl⟩ := getElem_of_mem hv
  have hi' : i < ds.length := by rw [← xs.length]; exact hi
  refine Ar (fun v' g hv' => ?_) <| xs.get (getElem?_eq_getElem hi')
  rw [getElem?_eq_getElem hi] at g
  cases g
  exact ⟨_, getElem_mem hi', hv'⟩
 refine ⟨fun v => decide (HD s.heap d v), fun v hv => ?_, ?_, fun i v x hv hx' => ?_⟩
 ·refine Ar (fun x hxm hxv => ?_) <| hx v (by simpa using hv)
  have r := Gm T (A := A.in1) (kd _ hxm) ke hxv y (by show A.units + 1 + T.depth < cLine; exact AB 0x2921220000a8244a00008421 rt hu)
  have : decide (x = d) = decide (HD s.heap d v) := by
   by_cases q : x = d
   ·subst q; rw [decide_eq_true rfl, decide_eq_true hxv]
   ·rw [decide_eq_false q, decide_eq_false fun h => q (HD.fn hxv h)]
  rwa [this] at r
 ·rw [Array.any_eq_true]
  constructor
  ·rintro ⟨i, hi, h⟩
   have h := of_decide_eq_true h
   have hi' : i < ds.length := by rw [← xs.length]; simpa using hi
   refine Ar (fun v' g hv' => ?_) <| xs.get (getElem?_eq_getElem hi')
   have : vs.toArray[i] = v' := by
    have : vs.toArray[i]? = some v' := by simpa using g
    exact (Array.getElem?_eq_some_iff.mp this).2
   rw [this] at h
   rw [HD.fn h hv']; exact getElem_mem hi'
  ·intro hm
   obtain ⟨i, hi, he⟩ := getElem_of_mem hm
   refine Ar (fun v' g hv' => ?_) <| xs.get (getElem?_eq_getElem hi)
   have hiv : i < vs.toArray.size := by rw [size_toArray, xs.length]; exact hi
   refine ⟨i, hiv, decide_eq_true ?_⟩
   have : vs.toArray[i] = v' := by
    have : vs.toArray[i]? = some v' := by simpa using g
    exact (Array.getElem?_eq_some_iff.mp this).2
   rw [this, ← he]; exact hv'
 ·refine Ar (fun v' g hv' => ?_) <| xs.get hx'
  rw [hv] at g; cases g
  constructor
  ·intro h; exact HD.fn hv' (of_decide_eq_true h)
  ·rintro rfl; exact decide_eq_true hv'
end
section
open PySem.SeqAt
theorem Nq {T : Ty} {d : Dt} {es : List Dt} (l : LV L q qs) (x : DOf L p d) (y : CO L qs es) (kd : T.ok d) (ke : ∀ x ∈ es, T.ok x) (hu : A.units + T.depth + 1 < cLine)
  (hj : es[j]? = some d) (hno : ∀ m < j, es[m]? ≠ some d) (hz : es.length ≤ sizeLine) (h : Q (.int j) L) : As X A (.val (.builtin "list.index")) [q, p] [] L Q := fun Z s E fv vs kvs P Vf Vs Ks => by
 apply AI Vf
 apply Vs.cons_el; intro v r V y1
 apply y1.cons_el; intro v2 r2 V2 y2
 apply y2.nil_el
 cases Ks
 apply l.el P V; intro b ws n hb rb
 have ys := CC P y rb
 refine F9 (fun e h1 h2 h3 => ?_) <| Jd (A := A) ke kd ys (JX P x V2) hu
 have hjl : j < es.length := by
  rcases lt_or_ge j es.length with q | q
  ·exact q
  ·rw [getElem?_eq_none q] at hj; cases hj
 have hjw : j < ws.toArray.size := by rw [size_toArray, ys.length]; exact hjl
 have hs : sizeLine = 16777216 := rfl
 have at_ : ∀ m (hm : m < ws.toArray.size), ws[m]? = some ws.toArray[m] := fun m hm => by simp at hm ⊢
 have g := list_indexAt b ws.toArray n none #[] v2 e j hjw (by exact AB 0x1220000000000000001a50a86480000014a91050a0852800423 rt hz hjl hs) ((h3 j _ d (at_ j hjw) hj).mpr rfl) fun m hm hlt => by
  have hme : m < es.length := by exact AB 0x95050a0852808422 rt hjl hlt
  rw [← not_eq_true]
  intro he
  have := (h3 m _ _ (at_ m hm) (getElem?_eq_getElem hme)).mp he
  exact hno m hlt (by rw [getElem?_eq_getElem hme, this])
 exact call_meets F.slot_list_index ⟨_, hb, rfl⟩ F.entry_list_index (F.args_list_index_2 _ _) g ⟨hb, h1, .keeps P (Az s _) (AT _ _) h⟩
theorem JP {T : Ty} {d : Dt} {es : List Dt} (l : LV L q qs) (x : DOf L p d) (y : CO L qs es) (kd : T.ok d) (ke : ∀ x ∈ es, T.ok x) (hu : A.units + T.depth + 1 < cLine)
  (h : ∀ f : Dt → Bool, (∀ x, f x = true ↔ x = d) → Q (.int (es.countP f : Nat)) L) : As X A (.val (.builtin "list.count")) [q, p] [] L Q := fun Z s E fv vs kvs P Vf Vs Ks => by
 classical
 apply AI Vf
 apply Vs.cons_el; intro v r V y1
 apply y1.cons_el; intro v2 r2 V2 y2
 apply y2.nil_el
 cases Ks
 apply l.el P V; intro b ws n hb rb
 have ys := CC P y rb
 refine F9 (fun e h1 h2 h3 => ?_) <| Jd (A := A) ke kd ys (JX P x V2) hu
 have g := list_countAt b ws.toArray n none #[] v2 e
 refine call_meets F.slot_list_count ⟨_, hb, rfl⟩ F.entry_list_count (F.args_list_count_2 _ _) g ⟨hb, h1, .keeps P (Az s _) ?_ (h (fun x => decide (x = d)) fun x => by simp)⟩
 have : ws.toArray.toList.countP e = es.countP (fun x => decide (x = d)) := by
  show ws.countP e = _
  have hlen := ys.length
  clear h g h1 h2 rb hb V Vs y y1 ke
  induction ws generalizing es with
  | nil => cases es with
   | nil => rfl
   | cons _ _ => cases hlen
  | cons w ws ih =>
   cases es with
   | nil => cases hlen
   | cons x es =>
    obtain ⟨v', r', q, ya, yb⟩ := ys.cons_inv
    cases q
    rw [List.countP_cons, List.countP_cons, ih yb (fun i v x hv hx => h3 (i + 1) v x (by simpa using hv) (by simpa using hx)) yb.length]
    have := h3 0 w x rfl rfl
    by_cases q : x = d
    ·rw [this.mpr q]; simp [q]
    ·have : e w = false := by rw [← not_eq_true]; exact fun he => q (this.mp he)
     rw [this]; simp [q]
 rw [this]; exact AT _ _
noncomputable def GX (x : List PV) (n : Int) : List PV := (replicate n.toNat x).flatten
theorem Ae.rep {vs : List Value} (V : Ae D h ps vs) (n : Int) : Ae D h (GX ps n) (replicate n.toNat vs).flatten := by
 unfold GX
 generalize n.toNat = k
 induction k with
 | zero => exact .nil
 | succ k ih => rw [replicate_succ, replicate_succ, flatten_cons, flatten_cons]; exact V.append ih
theorem Hr (c : Array Value) : ∀ (k : Nat) (acc : Array Value), ((replicate k c).foldl (fun x1 x2 => x1 ++ x2) acc).toList = acc.toList ++ (replicate k c.toList).flatten
 | 0, acc => by simp
 | k + 1, acc => by rw [replicate_succ, foldl_cons, Hr c k, toList_append, replicate_succ, flatten_cons, append_assoc]
theorem J5 {n : Int} (l : LV L p ps) (hn : n < 2 ^ 62) (hn' : -(2 ^ 62) ≤ n) (hz : ps.length * n.toNat ≤ sizeLine) (h : ∀ a, Q (.ref a) ((a, .list (GX ps n)) :: L)) : CR X A (binaryOp .Mult) p (.int n) L Q := fun Z s E u v P Va Vb => by
 apply Ax Vb; intro t
 apply l.el P Va; intro a vs k ho r
 have hl : vs.toArray.size = ps.length := by rw [size_toArray, r.length]
 have hs : sizeLine = 16777216 := rfl
 refine wpAny_binaryOp_repeat_ref (T := "list") (U := "int") (by decide) ⟨_, ho, rfl⟩ (fun s' => typeIs_int s' n t) noFill_list_mul F.fills_int_mul F.slot_int_rmul repeat_list F.slot_int_index.lookup
  (call_meets F.slot_int_rmul (typeIs_int s n t) F.entry_int_rmul (F.args_int_rmul_2 _ _) (int___rmul___int_list n t a vs.toArray k)
   ⟨ho, rfl, ⟨_, ho, rfl⟩, call_meets F.slot_list_mul ⟨_, ho, rfl⟩ F.entry_list_mul (F.args_list_mul_2 _ _)
    (AutoListH.list___mul___list_int_3 a vs.toArray k n t (by simp [Builtin.List.listFitsIndex]; exact ⟨FI 0x510000000000000000d28874200000000000000034a218421 rt hn', FI 0x800000000000000069684200000000000000034b420421 rt hn⟩) (by rw [hl]; lia) (by rw [hl]; simp [Builtin.List.listTooLong]; exact Aa 0x94012800421 rt hz))
    ⟨ho, ?_⟩⟩)
 generalize hy : (List.foldl (fun x1 x2 => x1 ++ x2) #[] (replicate (if vs.toArray.isEmpty = true then 0 else n.toNat) vs.toArray)) = ys
 have hys : ys.toList = (replicate n.toNat vs).flatten := by
  rw [← hy, Hr]
  simp only [nil_append]
  by_cases q : vs = []
  ·subst q; simp
  ·have : ¬ vs.toArray.isEmpty = true := by simpa using q
   rw [if_neg this]
 have kk := A9 s { cls := .type "list", data := .seq ys } s.toks
 refine Av (fun P2 e2 => ?_) <| P.alloc (ps := GX ps n) (vs := (replicate n.toNat vs).flatten) (n := 0) kk (le_refl _) (by rw [← hys]; simp only [Array.toArray_toList]; exact get?_push_size _ rfl) (r.rep n)
 exact ⟨_, _, h _, P2, E3 _, e2⟩
theorem Kv (l : LV L p ps) (hz : ps.length ≤ sizeLine) (h : Q (.tup ps) L) : As X A (.val (.type "tuple")) [p] [] L Q := fun Z s E fv vs kvs P Vf Vs Ks => by
 apply AI Vf
 apply Vs.cons_el; intro v r V y1
 apply y1.nil_el
 cases Ks
 apply l.el P V; intro b ws n hb rb
 refine call_tuple_list (Ah hb) (fun h' hk => ?_) (by rw [size_toArray, rb.length]; exact hz)
 have k1 : Keeps s { s with heap := h' } := ⟨h', s.toks, rfl, hk⟩
 have P1 := P.keeps k1
 have k2 := A9 { s with heap := h' } { cls := .type "tuple", data := .seq ws.toArray } s.toks
 refine ⟨.tup ps, L, h, P1.keeps k2, ?_, (BF.keeps k1).trans (.keeps k2)⟩
 exact Exists.intro _ ⟨ws, 0, rfl, ⟨get?_push_size _ rfl, P1.new (le_refl _)⟩, (rb.ext (.keeps k1)).ext (.keeps k2)⟩
theorem G2 (hp : LV L p ps ∨ p = .tup ps) (hz : ps.length ≤ sizeLine) (h : ∀ a, Q (.ref a) ((a, .list ps) :: L)) : As X A (.val (.type "list")) [p] [] L Q := fun Z s E fv vs kvs P Vf Vs Ks => by
 apply AI Vf
 apply Vs.cons_el; intro v r V y1
 apply y1.nil_el
 cases Ks
 have key : ∀ {b : Addr} {T : String} {ws : List Value} {n : Nat}, (T = "list" ∨ T = "tuple") → s.heap.get? b = some { cls := .type T, data := .seq ws.toArray n } → Ae (dz L Z) s.heap ps ws →
   wpAny X.M A (call (.type "list") [.ref b]) (Be X A.handled Z L s Q) E s := fun {b T ws n} hT hb rb => by
  refine call_list_seq b hT hb rfl rfl (fun h' c' hk hn => ?_) (by rw [size_toArray, rb.length]; exact hz)
  have k1 : Keeps s { s with heap := h' } := ⟨h', s.toks, rfl, hk⟩
  refine Av (fun P2 e2 => ?_) <| P.alloc (ps := ps) (vs := ws) (n := c') k1 (le_refl _) hn rb
  exact ⟨_, _, h _, P2, E3 _, e2⟩
 rcases hp with l | rfl
 ·apply l.el P V; intro b ws n hb rb
  exact key (.inl rfl) hb rb
 ·apply Dd V; intro b ws n hb _ rb
  exact key (.inr rfl) hb rb
theorem As.freeze {f : PV} (h : As X A f ps ks L (KFr Q)) : As X A f ps ks L Q := fun Z s E fv vs kvs P Vf Vs Ks =>
 Ap (h Z s E fv vs kvs P Vf Vs Ks) fun _ _ h1 => h1.freeze
theorem CR.freeze {t : Value → Value → Sem Value} (h : CR X A t p q L (KFr Q)) : CR X A t p q L Q := fun Z s E a b P Va Vb =>
 Ap (h Z s E a b P Va Vb) fun _ _ h1 => h1.freeze
theorem I1 {ns : List Int} {vs : List Value} (V : Ae D h (ns.map .int) vs) : ∀ (i : Nat) (v : Value), vs[i]? = some v → ∃ t, v = .int (ns.getD i 0) t := fun i v hv => by
 refine Ar (fun p hp Vp => ?_) <| V.get' hv
 rw [getElem?_map] at hp
 cases e : ns[i]? with
 | none => rw [e] at hp; cases hp
 | some k =>
  rw [e] at hp
  cases hp
  apply Ax Vp; intro t
  exact ⟨t, by simp [getD, e]⟩
theorem DK (ns : List Int) : ∀ n, n ≤ ns.length → preSum (fun j => ns.getD j 0) n = (ns.take n).sum
 | 0, _ => by simp [preSum]
 | n + 1, h => by
  have hlt : n < ns.length := by exact Aa 0x4a0290910000421 rt h
  rw [preSum, DK ns n (by exact Aa 0x4a0090910000421 rt h), List.take_succ_eq_append_getElem hlt, List.sum_append]
  simp [getD, getElem?_eq_getElem hlt]
theorem H7 {ns : List Int} (hh : A.handled = none) (l : LV L p (ns.map .int)) (hfit : ∀ j, j < ns.length → InLong (ns.getD j 0) ∧ InLong (ns.take (j + 1)).sum) (h : Q (.int ns.sum) L) : As X A (.val (.builtin "sum")) [p] [] L Q := fun Z s E fv vs kvs P Vf Vs Ks => by
 apply AI Vf
 apply Vs.cons_el; intro v r V y1
 apply y1.nil_el
 cases Ks
 apply l.el P V; intro b ws n hb rb
 have hlen : ws.toArray.size = ns.length := by rw [size_toArray, rb.length, length_map]
 have hbl := lt_size hb
 refine call_sum_walk (wpAny_pyIter_list (Ah hb) ⟨_, _, _, _, _, _, fun j => ns.getD j 0, rfl, Walks.list (A := A.in1) hh _ b (ne_of_lt hbl) ws.toArray, ⟨⟨_, get?_push_size _ rfl, rfl, rfl⟩, (Ah hb).push _⟩, fun a ha => ?_, fun i v hv => ?_, fun j hj => ?_, fun h' tk t' hk => ?_⟩)
 ·dsimp only; rw [size_push]
  simp at ha
  rcases ha with rfl | rfl
  ·exact lt_succ_self _
  ·exact lt_succ_of_lt hbl
 ·exact I1 rb i v (by simpa using hv)
 ·rw [hlen] at hj
  rw [DK _ _ (by exact Aa 0x484880012808421 rt hj)]
  exact hfit j hj
 ·rw [hlen, DK _ _ (le_refl _), take_length]
  have k : Keeps s { s with heap := h', toks := tk } := ⟨h', tk, rfl, fun c o e => hk c o (by simp; exact ne_of_lt (lt_size e)) (get?_push_of_some _ e)⟩
  exact .keeps P k (AT _ _) h
end
theorem Ht {g : Int} (hx : (x == name) = false) : getL name (⟨g, .str x t, v⟩ :: es) = getL name es := by
 have hk : (Value.str x t).isStr name = false := hx
 unfold getL
 rw [List.find?_cons, any_cons]
 dsimp only
 rw [hk]; rfl
theorem Ix {vs : List Value} (r : Es xs vs es) (h : xs.findIdx? (· == name) = some i) : ∃ v, vs[i]? = some v ∧ getL name es = some (some v) := by
 induction r generalizing i with
 | nil => exact nomatch h
 | @cons x v g t _ _ _ _ ih =>
  rw [List.findIdx?_cons] at h
  cases hx : (x == name) with
  | true =>
   rw [hx] at h; cases h
   refine ⟨v, rfl, ?_⟩
   have hk : (Value.str x t).isStr name = true := hx
   unfold getL
   rw [List.find?_cons]
   dsimp only
   rw [hk]
  | false =>
   rw [hx] at h
   refine Ar (fun j hj e => ?_) <| Option.map_eq_some_iff.mp h
   rw [Ht hx, ← e]
   exact ih hj
theorem Ma {vs : List Value} (r : Es xs vs es) : es.any (·.refKey) = false := by
 induction r with
 | nil => rfl
 | cons _ ih => rw [any_cons, ih]; rfl
theorem Hq {vs : List Value} (r : Es xs vs es) (h : xs.findIdx? (· == name) = none) : getL name es = some none ∧ es.any (·.key.isStr name) = false ∧ ∀ g key v, putL name g key v es = es ++ [⟨g, key, v⟩] := by
 induction r with
 | nil => exact ⟨rfl, rfl, fun _ _ _ => rfl⟩
 | @cons x v g t _ _ es _ ih =>
  rw [List.findIdx?_cons] at h
  cases hx : (x == name) with
  | true => rw [hx] at h; exact nomatch h
  | false =>
   rw [hx] at h
   have h' := ih (Option.map_eq_none_iff.mp h)
   have hk : (Value.str x t).isStr name = false := hx
   refine ⟨(Ht hx).trans h'.1, ?_, fun g' key u => ?_⟩
   ·rw [any_cons, h'.2.1, Bool.or_false]; exact hk
   ·unfold putL
    dsimp only
    rw [hk, if_neg (by decide), h'.2.2]; rfl
theorem Es.snoc {vs : List Value} {g : Int} (r : Es xs vs es) : Es (xs ++ [x]) (vs ++ [v]) (es ++ [⟨g, .str x t, v⟩]) := by
 induction r with
 | nil => exact .cons .nil
 | cons _ ih => exact .cons ih
theorem Es.length {vs : List Value} (r : Es xs vs es) : es.length = xs.length := by
 induction r with
 | nil => rfl
 | cons _ ih => exact congrArg (· + 1) ih
theorem Hu (hp : ∀ x, p ≠ .val x) (V : Aj D h p v) : handedIn v = true := by
 cases p with
 | none => rw [Dp V]; rfl
 | bool b => rw [BS V]; rfl
 | int i => apply Ax V; intro t; rfl
 | str l => apply Bn V; intro _ t; rfl
 | val x => exact absurd rfl (hp x)
 | ref a => rw [Cw V]; rfl
 | tup ps => apply Dd V; intro a vs n _ _ _; rfl
 | lst ps => apply J1 V; intro a vs n _ _ _; rfl
 | dic ks ps => refine DD (fun a vs es n e₀4 _ => ?_) <| V; obtain rfl := e₀4; rfl
 | ins C xs ps => refine OS (fun a d es n vs e₀5 _ => ?_) <| V; obtain rfl := e₀5; rfl
 | lam a b c => obtain ⟨a, c, co, qual, pm, ctv, doc, vs, t, rfl, _⟩ := V; rfl
 | sli a b c => refine DD (fun a vl vu vs e₀4 _ => ?_) <| V; obtain rfl := e₀4; rfl
 | exc a b => refine OV (fun a o vs t ot n u e₀7 _ => ?_) <| V; obtain rfl := e₀7; rfl
 | obj a b => refine Ar (fun a e₀1 _ => ?_) <| V; obtain rfl := e₀1; rfl
def JI (X : Cx) (A : Around) (name : Str) (p : PV) (L : Ai) (Q : QE) : Prop :=
 ∀ Z s E v, Hp X A.handled Z L s → Aj (dz L Z) s.heap p v → wpAny X.M A (getAttr v name true) (Be X A.handled Z L s Q) E s
abbrev KAt (X : Cx) (A : Around) (attr : Str) (Q : QE) : QE := fun p L => JI X A attr p L Q
theorem QB (hb : attributeBase value attr env (eval value env) = eval value env) (h : WE X A env nm m (eval value env) L (KAt X A attr Q)) : WE X A env nm m (eval (.Attribute value attr pos) env) L Q := fun Z s E F => by
 rw [arm_eval_Attribute, hb]
 refine wpAny_bind (wv (h Z s E F) fun o s1 p L1 a P1 V1 e1 => ?_)
 exact wpAny_bind (wpAny_standAt (wpAny_bind (wpAny_holding (Ap (a Z s1 E o P1 V1) fun r s2 h2 => wpAny_bind (wpAny_letTemporaryGo (wpAny_pure (h2.after e1)))))))
theorem JZ (V : Aj D h (.ins C xs ps) v) : ∃ x d es n vs, v = .ref x ∧ InstAt h x (instObj C d) C (some (dictOf es n)) ∧ Es xs vs es ∧ Ae D h ps vs := by
 refine OU (fun a d es n vs e₀5 ho hd r W => ?_) <| V; obtain rfl := e₀5
 exact ⟨a, d, es, n, vs, rfl, ⟨ho.1, rfl, rfl, hd.1⟩, r, W⟩
theorem Im {attr : Option Value} (KX : K.In X.h₀) (hg : plainGet K C name = true) (hh : hasDictIn K C = true) (ha : findIn K (.ref C) name = some attr) (hn : noGet K attr = true)
  (hi : xs.findIdx? (· == name) = some i) (hq : ps[i]? = some q) (hv : ∀ x, q ≠ .val x) (h : Q q L) : JI X A name (.ins C xs ps) L Q := fun Z s E v P V => by
 refine OT (fun x d es n vs e₀5 I r W => ?_) <| JZ V; obtain rfl := e₀5
 refine Ar (fun u h1 h2 => ?_) <| Ix r hi
 refine Ar (fun u' g1 U => ?_) <| W.get hq
 rw [h1] at g1; cases g1
 exact get_value (KX.keeps P.keep) I (plainGet_of hg).1 (findObj_own hh ha hn h2) (Hu hv U) (.keeps P (Az s _) U h)
theorem M9 {d : Addr} (P : Hp X H Z L s) (hm : (d, AO.attrs xs ps) ∈ L) (V : Aj (dz L Z) s.heap (.obj C d) v) :
  ∃ x es n vs, v = .ref x ∧ InstAt s.heap x (instObj C d) C (some (dictOf es n)) ∧ s.heap.get? d = some (dictOf es n) ∧ Es xs vs es ∧ Ae (dz L Z) s.heap ps vs := by
 refine Ar (fun a e₀1 ho => ?_) <| V; obtain rfl := e₀1
 refine BZ (fun es n vs hd r W => ?_) <| P.led _ hm
 exact ⟨a, es, n, vs, rfl, ⟨ho.1, rfl, rfl, hd⟩, hd, r, W⟩
theorem LC {d : Addr} {attr : Option Value} (KX : K.In X.h₀) (hm : (d, AO.attrs xs ps) ∈ L) (hg : plainGet K C name = true) (hh : hasDictIn K C = true) (ha : findIn K (.ref C) name = some attr) (hn : noGet K attr = true)
  (hi : xs.findIdx? (· == name) = some i) (hq : ps[i]? = some q) (hv : ∀ x, q ≠ .val x) (h : Q q L) : JI X A name (.obj C d) L Q := fun Z s E v P V => by
 refine K3 (fun x es n vs e₀4 I _ r W => ?_) <| M9 P hm V; obtain rfl := e₀4
 refine Ar (fun u h1 h2 => ?_) <| Ix r hi
 refine Ar (fun u' g1 U => ?_) <| W.get hq
 rw [h1] at g1; cases g1
 exact get_value (KX.keeps P.keep) I (plainGet_of hg).1 (findObj_own hh ha hn h2) (Hu hv U) (.keeps P (Az s _) U h)
theorem Il {mc a : Value} (KX : K.In X.h₀) (hr : readsIn K C mc = true) (e : findCls K (.ref C) mc name = some (.val a)) (hh : handedIn a = true) (hq : ∀ D h, Aj D h q a) (h : Q q L) : JI X A name (.val (.ref C)) L Q := fun Z s E v P V => by
 apply AI V
 exact cls_value (KX.keeps P.keep) hr e hh (.keeps P (Az s _) (hq _ _) h)
theorem M6 {f : Addr} (KX : K.In X.h₀) (hg : plainGet K C name = true) (hf : findIn K (.ref C) name = some (some (.ref f))) (ht : isFn K (.ref f) = true) (hi : xs.findIdx? (· == name) = none) :
  HC X A name (.ins C xs ps) L (.val (.ref f)) := fun Z s pl v R E P V k => by
 refine OT (fun x d es n vs e₀5 I r W => ?_) <| JZ V; obtain rfl := e₀5
 have hl := (Hq r hi).1
 exact method_fn (KX.keeps P.keep) I (plainGet_of hg).1 (plainGet_of hg).2 hf (beq_iff_eq.mp ht) (by show (lookIn name (dictOf es n)).map _ = _; rw [lookIn_dict, hl]; rfl) (k _ s (Ic _) (Ag s))
theorem Hp.setO {o : AO} (P : Hp X H Z L s) (S : BQ L a o o' L') (hs : Heap.SameBut a s.heap h')
  (ho : Kp (dz L Z) (dz L Z) s.heap h' → BP (dz L Z) h' a o') : Hp X H Z L' { s with heap := h', toks := tk } ∧ BF L L' s { s with heap := h', toks := tk } := by
 have hd : dz L' Z = dz L Z := by unfold dz; rw [S.dom]
 have ha : a ∈ dom L := AX S.mem
 have kp : Kp (dz L Z) (dz L Z) s.heap h' := fun b o e n => ⟨(hs.2 b fun q => n (q ▸ mem_append_left _ ha)).trans e, n⟩
 refine ⟨⟨fun b o e => (hs.2 b fun q => ?_).trans (P.keep b o e), P.os, P.bare, fun x hx => ?_, by rw [S.dom]; exact P.nodup, by rw [hd]; exact P.fresh, by rw [S.dom]; exact P.apart, fun b hb => ?_, by rw [hd]; exact P.held.kp kp⟩, fun b o e n => ?_, fun _ _ e => e, fun b o e => ?_⟩
 ·exact P.base e (q ▸ mem_append_left _ ha)
 ·rw [hd]
  rcases S.inv P.nodup x hx with q | ⟨q, hne⟩
  ·subst q; exact ho kp
  ·exact BP.kp kp (fun ob e => (hs.2 _ hne).trans e) (P.led x q)
 ·refine Ao (fun o e => ?_) <| P.zone b hb
  exact ⟨o, (hs.2 b fun q => P.apart a ha (q ▸ hb)).trans e⟩
 ·rw [S.dom]; exact ⟨(hs.2 b fun q => n (q ▸ ha)).trans e, n⟩
 ·by_cases q : b = a
  ·refine Ao (fun ob e' => ?_) <| (ho kp).has; exact ⟨ob, q ▸ e'⟩
  ·exact ⟨o, (hs.2 b q).trans e⟩
theorem NI {d : Addr} (KX : K.In X.h₀) (hs : findIn K (.ref C) "__setattr__" = some (some (.builtin "object.__setattr__"))) (hp : plainOver K C = true)
  (ht : takerIn K C name = some none) (hh : hasDictIn K C = true) (hi : xs.findIdx? (· == name) = none) (hz : xs.length < 1000) (P : Hp X A.handled Z L s) (V : Aj (dz L Z) s.heap (.obj C d) v) (U : Aj (dz L Z) s.heap p u)
  (S : BQ L d (.attrs xs ps) (.attrs (xs ++ [name]) (ps ++ [p])) L') : wpAny X.M A (setAttr v name u) (fun _ s' => Hp X A.handled Z L' s' ∧ BF L L' s s') E s := by
 refine K3 (fun x es n vs e₀4 I D r W => ?_) <| M9 P S.mem V; obtain rfl := e₀4
 refine CP (fun h1 h2 h3 => ?_) <| Hq r hi
 have KH := KX.keeps P.keep
 have hx : s.heap.get? x = some (instObj C d) := I.at_
 refine set_plain KH I hs (osa_open (s := { s with toks := s.toks + 1 }) KH I hp ht fun b => ?_)
 refine Ar (fun cd hc hd' => ?_) <| any_some (show (clsIn K C).any (·.hasDict) = true from hh)
 refine wpAny_bind (wpAny_pure (wpAny_bind (wpAny_bind (wpAny_loadPart hx (wpAny_bind (Looks.here (s := { s with toks := s.toks + 1 }) (looks_clsIn KH hc) ?_))))))
 rw [hd']
 refine wpAny_pure (a := some d) (wpAny_bind (wpAny_pure (wpAny_bind ?_)))
 unfold nsSet
 refine wpAny_bind (wpAny_bind (wpAny_askSetting (wpAny_pure (wpAny_bind (wpAny_mkText (wpAny_bind (wpAny_loadPart D ?_)))))))
 have c : (!es.toArray.any (·.key.isStr name) && es.toArray.any (·.refKey)) = false := by
  rw [List.any_toArray, List.any_toArray, h2, Ma r]; rfl
 dsimp only
 rw [aRefKeyMayBeTheName_at, c]
 have e1 := putName_dict name (PyData.keyHash X.w.params name) (.str name (s.toks + 1)) u es n
 rw [h3] at e1
 have D' : (s.heap.update d (Obj.putName name (PyData.keyHash X.w.params name) (.str name (s.toks + 1)) u)).get? d = some (dictOf (es ++ [⟨PyData.keyHash X.w.params name, .str name (s.toks + 1), u⟩]) (putN name es n)) := by
  rw [get?_update_self _ D (by rw [e1]; rfl), e1]
 refine wpAny_updatePart D ?_
 refine wpAny_bind (wpAny_lookBehind D' (pastItsLine_dict (by rw [size_toArray, sizeLine_eq, length_append, r.length]; simp; exact Aq 0x200000052a01f408a808421 rt hz)) ?_)
 refine wpAny_pure ?_
 exact P.setO S (Heap.SameBut.update ..) fun kp => ⟨_, _, vs ++ [u], D', r.snoc, (W.kp kp).append (.cons (U.kp kp) .nil)⟩
theorem B1 {o : PySem.Expr} (KX : K.In X.h₀) (hsw : swapsWith value (some (.Attribute o attr pos')) pos.line env = pure false)
  (hs : findIn K (.ref C) "__setattr__" = some (some (.builtin "object.__setattr__"))) (hp : plainOver K C = true) (ht : takerIn K C attr = some none) (hh : hasDictIn K C = true)
  (h : WE X A env nm m (eval value env) L fun p L1 => WE X A env nm m (eval o env) L1 fun q L2 => ∃ d xs ps L', q = .obj C d ∧ xs.findIdx? (· == attr) = none ∧ xs.length < 1000 ∧ BQ L2 d (.attrs xs ps) (.attrs (xs ++ [attr]) (ps ++ [p])) L' ∧ Qn m L') :
  WS X A env nm m (exec (.Assign [.Attribute o attr pos'] value pos) env) L Qn Qr Qb Qc := fun Z s E F => by
 refine plainObj_wpAny_Assign_Attribute (wv (h Z s E F) fun u s1 p L1 h1 P1 U e1 => ?_) hsw
 refine wv (h1 Z s1 E (F.ext e1 P1)) fun v s2 q L2 o2 P2 V e2 => ?_
 obtain ⟨d, xs, ps, L', hq, hi, hz, S, q'⟩ := o2
 subst hq
 refine Ap (NI KX hs hp ht hh hi hz P2 V (U.ext e2) S) fun _ s3 ⟨P3, e3⟩ => ?_
 exact ⟨.next, m, L', q', ((F.ext e1 P1).ext e2 P2).ext e3 P3, rfl, ((e1.trans e2).trans e3).toS⟩
theorem Hp.allocO {o : AO} (P : Hp X H Z L s) (k : Keeps s s') (ha : s.heap.objs.size ≤ a) (ho : Kp (dz L Z) (dz ((a, o) :: L) Z) s.heap s'.heap → BP (dz ((a, o) :: L) Z) s'.heap a o) :
  Hp X H Z ((a, o) :: L) s' ∧ BF L ((a, o) :: L) s s' := by
 refine B8 (fun h' tk e₀2 hk => ?_) <| k; obtain rfl := e₀2
 have hna : ∀ b o, s.heap.get? b = some o → b ≠ a := fun b o e q => lt_irrefl _ (lt_of_lt_of_le (q ▸ lt_size e) ha)
 have kp : Kp (dz L Z) (dz ((a, o) :: L) Z) s.heap h' := fun b ob e n => ⟨hk b ob e, fun hm => by
  rcases List.mem_cons.mp (show b ∈ a :: dz L Z from hm) with q | q
  ·exact hna b ob e q
  ·exact n q⟩
 have hza : a ∉ dz L Z := P.new ha
 refine ⟨⟨fun b o e => hk b o (P.keep b o e), P.os, P.bare, fun x hx => ?_, ?_, fun b hb => ?_, fun b hb hz => ?_, fun b hb => let ⟨o, e⟩ := P.zone b hb; ⟨o, hk b o e⟩, P.held.kp kp⟩, ?_⟩
 ·rcases List.mem_cons.mp hx with q | q
  ·subst q; exact ho kp
  ·exact BP.kp kp (fun ob e => hk _ _ e) (P.led x q)
 ·exact List.nodup_cons.mpr ⟨fun hm => hza (mem_append_left _ hm), P.nodup⟩
 ·rcases List.mem_cons.mp (show b ∈ a :: dz L Z from hb) with q | q
  ·subst q
   cases e : X.h₀.get? b with
   | none => rfl
   | some o => exact absurd (lt_size (P.keep b o e)) (Nat.not_lt.mpr ha)
  ·exact P.fresh b q
 ·rcases List.mem_cons.mp (show b ∈ a :: dom L from hb) with q | q
  ·subst q; exact hza (mem_append_right _ hz)
  ·exact P.apart b q hz
 ·refine ⟨fun b ob e n => ⟨hk b ob e, fun hm => ?_⟩, fun _ _ e => e, fun b ob e => ⟨ob, hk b ob e⟩⟩
  rcases List.mem_cons.mp (show b ∈ a :: dom L from hm) with q | q
  ·exact hna b ob e q
  ·exact n q
theorem Hp.drop {o : AO} (P : Hp X H Z L s) (d : CZ L a o L') : Hp X H Z L' s ∧ a ∉ dz L' Z ∧ Kp (dz L Z) (dz L' Z) s.heap s.heap ∧ BF L L' s s := by
 have sub : ∀ b, b ∈ dom L' → b ∈ dom L := fun b hb => by refine Ar (fun y hy e => ?_) <| List.mem_map.mp hb; exact List.mem_map.mpr ⟨y, d.sub y hy, e⟩
 have subz : ∀ b, b ∈ dz L' Z → b ∈ dz L Z := fun b hb => (List.mem_append.mp hb).elim (fun q => mem_append_left _ (sub b q)) (mem_append_right _)
 have kp : Kp (dz L Z) (dz L' Z) s.heap s.heap := AP subz
 refine ⟨⟨P.keep, P.os, P.bare, fun x hx => BP.kp kp (fun _ e => e) (P.led x (d.sub x hx)), (d.nodup P.nodup).1, fun b hb => P.fresh b (subz b hb), fun b hb => P.apart b (sub b hb), P.zone, P.held.kp kp⟩, fun hm => ?_, kp, ⟨fun b o e n => ⟨e, fun hm => n (sub b hm)⟩, fun _ _ e => e, fun b o e => ⟨o, e⟩⟩⟩
 rcases List.mem_append.mp hm with q | q
 ·exact (d.nodup P.nodup).2 q
 ·exact P.apart a (AX d.mem) q
theorem LN {fI : Addr} (KX : K.In X.h₀) (hm : makesIn K C = true) (hi : findIn K (.ref C) "__init__" = some (some (.ref fI))) (hf : typeIn K (.ref fI) = some (.type "function"))
  (h : ∀ d A', A'.handled = A.handled → A'.depth ≤ A.depth + 1 → Hc X A' (.ref fI) (.obj C d :: ps) ks ((d, .attrs [] []) :: L) fun p L' => p = .none ∧ ∃ xs qs L2, CZ L' d (.attrs xs qs) L2 ∧ Q (.ins C xs qs) L2) :
  As X A (.val (.ref C)) ps ks L Q := fun Z s E fv vs kvs P Vf Vs Ks => by
 apply AI Vf
 obtain ⟨hh, g, dr, t, os⟩ := s
 have KH : K.In hh := KX.keeps P.keep
 refine wpAny_call (make_core (makes_of KH hm) (looks_findIn KH hi) (fun self => bind_fn KH self hf) (.inl rfl) ?_)
 have k1 := A9 ⟨hh, g, dr, t, os⟩ emptyDict t
 have k2 := A9 ⟨hh.push emptyDict, g, dr, t, os⟩ (instObj C hh.objs.size) t
 have hd : ((hh.push emptyDict).push (instObj C hh.objs.size)).get? hh.objs.size = some (dictOf [] 0) := get?_push_of_some _ (get?_push_size _ rfl)
 have hx : ((hh.push emptyDict).push (instObj C hh.objs.size)).get? (hh.objs.size + 1) = some (instObj C hh.objs.size) := by
  have := get?_push_size (hh.push emptyDict) (o := instObj C hh.objs.size) rfl
  rwa [size_push] at this
 have k12 : Keeps ⟨hh, g, dr, t, os⟩ ⟨(hh.push emptyDict).push (instObj C hh.objs.size), g, dr, t, os⟩ := ⟨_, t, rfl, fun b o e => get?_push_of_some _ (get?_push_of_some _ e)⟩
 refine Av (fun P1 e1 => ?_) <| P.allocO (a := hh.objs.size) (o := .attrs [] []) k12 (le_refl _) fun kp => ⟨[], 0, [], hd, .nil, .nil⟩
 have hxn : hh.objs.size + 1 ∉ dz ((hh.objs.size, AO.attrs [] []) :: L) Z := fun hm => by
  rcases List.mem_cons.mp (show hh.objs.size + 1 ∈ hh.objs.size :: dz L Z from hm) with q | q
  ·exact Nat.succ_ne_self _ q
  ·exact P.new (le_succ _) q
 have V1 : Aj (dz ((hh.objs.size, AO.attrs [] []) :: L) Z) ((hh.push emptyDict).push (instObj C hh.objs.size)) (.obj C hh.objs.size) (.ref (hh.objs.size + 1)) := by
  exact Exists.intro _ ⟨rfl, hx, hxn⟩
 have hA : (A.under (.builtin "type.__call__" ⟨.ref C :: vs, kvs⟩)).handled = A.handled ∧ (A.under (.builtin "type.__call__" ⟨.ref C :: vs, kvs⟩)).depth ≤ A.depth + 1 := ⟨rfl, le_of_eq (depth_under_kw A C vs kvs)⟩
 have hcall := h hh.objs.size (A.under (.builtin "type.__call__" ⟨.ref C :: vs, kvs⟩)) hA.1 hA.2 Z _ E (.ref (hh.objs.size + 1) :: vs) kvs (by rw [hA.1]; exact P1) (.cons V1 (Vs.ext e1)) (Ks.kp (e1.kp Z))
 refine codeAny_mono hcall fun r s' z => ?_
 rcases r with e | (v | _ | _ | _) <;> first | exact z | exact z.elim | skip
 obtain ⟨p, L', ⟨rfl, xs, qs, L2, D, q⟩, P2, V2, e2⟩ := z
 rw [hA.1] at P2
 refine ⟨Dp V2, ?_⟩
 refine IZ (fun P3 hn kp e3 => ?_) <| P2.drop D
 refine BZ (fun es n ws ho r W => ?_) <| P2.led _ D.mem
 have hx2 := e2.heap (hh.objs.size + 1) _ hx (fun hm => hxn (mem_append_left _ hm))
 have hxn2 : hh.objs.size + 1 ∉ dz L2 Z := fun hm => by
  rcases List.mem_append.mp hm with q | q
  ·refine Ar (fun y hy e => ?_) <| List.mem_map.mp q
   exact hx2.2 (List.mem_map.mpr ⟨y, D.sub y hy, e⟩)
  ·exact hxn (mem_append_right _ q)
 refine ⟨_, L2, q, P3, ?_, (e1.trans e2).trans e3⟩
 exact Exists.intro _ ⟨hh.objs.size, es, n, ws, rfl, ⟨hx2.1, hxn2⟩, ⟨ho, hn⟩, r, W.kp kp⟩
section
open PySem.SeqAt
theorem Na {l r1 r2 : PySem.Expr} {o1 o2 : CmpOp} (hm : markedEach [o1, o2] [r1, r2] (evalEach [r1, r2] env) = [eval r1 env, eval r2 env])
  (h : WE X A env nm m (eval l env) L fun p L1 => WE X A env nm m (eval r1 env) L1 fun q L2 => Bu X A o1 p q L2 (fun L3 => WE X A env nm m (eval r2 env) L3 fun r L4 => Bu X A o2 q r L4 Qt Qf) Qf) :
  WT X A env nm m (isTrue (.Compare l [o1, o2] [r1, r2] pos) env whole) L Qt Qf := fun Z s E F => by
 show wpAny _ _ (eval l env >>= fun v => testChain pos v [o1, o2] (markedEach [o1, o2] [r1, r2] (evalEach [r1, r2] env))) _ _ _
 rw [hm]
 refine wpAny_bind (wv (h Z s E F) fun a s1 p L1 h1 P1 V1 e1 => ?_)
 have F1 := F.ext e1 P1
 show wpAny _ _ (holding [a] (eval r1 env) >>= fun v => standAt pos >>= fun _ => holding [a, v] (compareOp o1 a v) >>= fun c => release [a, v] [c] >>= fun _ => holding [c, v] (truthy c) >>= fun t => if t = true then testChain pos v [o2] [eval r2 env] else pure false) _ _ _
 refine wpAny_bind (wpAny_holding (wv (h1 Z s1 E F1) fun b s2 q L2 h2 P2 V2 e2 => ?_))
 have F2 := F1.ext e2 P2
 refine wpAny_bind (wpAny_standAt (wpAny_bind (wpAny_holding (wv (h2 Z s2 E a b P2 (V1.ext e2) V2) fun c s3 r L3 o2 P3 V3 e3 => ?_))))
 obtain ⟨k, hk, hb⟩ := o2
 subst hk
 rw [BS V3]
 have F3 := F2.ext e3 P3
 refine wpAny_bind (wpAny_release (wpAny_bind (wpAny_holding (wpAny_truthy_bool ?_))))
 have e123 := (e1.trans e2).trans e3
 rcases hb with ⟨rfl, hb⟩ | ⟨rfl, hb⟩
 ·rw [if_pos rfl]
  show wpAny _ _ (holding [b] (eval r2 env) >>= fun v => standAt pos >>= fun _ => operate [b, v] (compareOp o2 b v) >>= fun c => holding [c] (truthy c)) _ _ _
  refine wpAny_bind (wpAny_holding (wv (hb Z s3 E F3) fun d s4 r L4 h4 P4 V4 e4 => ?_))
  refine wpAny_bind (wpAny_standAt (wpAny_bind (wpAny_operateT (wv (h4 Z s4 E b d P4 ((V2.ext e3).ext e4) V4) fun c2 s5 r5 L5 o2 P5 V5 e5 => ?_))))
  obtain ⟨k2, hk2, hb2⟩ := o2
  subst hk2
  rw [BS V5]
  exact wpAny_holding (wpAny_truthy_bool ⟨L5, hb2, P5, (e123.trans e4).trans e5⟩)
 ·rw [if_neg (by decide)]
  exact wpAny_pure ⟨L3, .inr ⟨rfl, hb⟩, P3, e123⟩
theorem max_of {ns : List Int} (hn : n < ns.length) : ∀ j, ns.getD j 0 ∈ ns ∨ ns.length ≤ j := fun j => by
 rcases lt_or_ge j ns.length with q | q
 ·left
  simp only [getD, getElem?_eq_getElem q, getD_some]
  exact getElem_mem q
 ·exact .inr q
theorem JL (val : Nat → Int) : ∀ k, argBest (fun i j => decide (val i > val j)) k ≤ k ∧ ∀ j ≤ k, val j ≤ val (argBest (fun i j => decide (val i > val j)) k)
 | 0 => ⟨le_refl _, fun j hj => by cases Nat.le_zero.mp hj; exact Int.le_refl _⟩
 | k + 1 => by
  refine Av (fun h1 h2 => ?_) <| JL val k
  unfold argBest
  by_cases hc : val (k + 1) > val (argBest (fun i j => decide (val i > val j)) k)
  ·rw [decide_eq_true hc, if_pos rfl]
   refine ⟨le_refl _, fun j hj => ?_⟩
   rcases lt_or_ge k j with q | q
   ·have : j = k + 1 := by exact le_antisymm (Aa 0x489020012240800421 rt hj) (Aa 0x484880012808421 rt q)
    subst this; exact Int.le_refl _
   ·have := h2 j q; exact l03 0x15b0e96186b420422 rt hc this
  ·rw [decide_eq_false hc, if_neg (by decide)]
   refine ⟨by exact Aa 0x91204012800421 rt h1, fun j hj => ?_⟩
   rcases lt_or_ge k j with q | q
   ·have : j = k + 1 := by exact le_antisymm (Aa 0x489020012240800421 rt hj) (Aa 0x484880012808421 rt q)
    subst this; exact l02 726903489233953 rt hc
   ·exact h2 j q
theorem Qz {ns : List Int} (hh : A.handled = none) (l : LV L p (ns.map .int)) (hne : 0 < ns.length) (h : ∀ r, r ∈ ns → (∀ x ∈ ns, x ≤ r) → Q (.int r) L) : As X A (.val (.builtin "max")) [p] [] L Q := fun Z s E fv vs kvs P Vf Vs Ks => by
 apply AI Vf
 apply Vs.cons_el; intro v r V y1
 apply y1.nil_el
 cases Ks
 apply l.el P V; intro b ws n hb rb
 have hlen : ws.toArray.size = ns.length := by rw [size_toArray, rb.length, length_map]
 have hbl := lt_size hb
 have hv : ∀ (i : Nat) (v : Value), ws.toArray[i]? = some v → ∃ t, v = Value.int (ns.getD i 0) t := fun i v hv => I1 rb i v (by simpa using hv)
 refine call_max_walk (wpAny_pyIter_list (Ah hb) ⟨_, _, _, _, _, _, _, rfl, Walks.list (A := A.in1) hh _ b (ne_of_lt hbl) ws.toArray, ⟨⟨_, get?_push_size _ rfl, rfl, rfl⟩, (Ah hb).push _⟩, fun a ha => ?_, by rw [hlen]; exact hne, CmpOf.ints_gt (fun j => ns.getD j 0) hv, fun v h' tk hP hk => ?_⟩)
 ·dsimp only; rw [size_push]
  simp at ha
  rcases ha with rfl | rfl
  ·exact lt_succ_self _
  ·exact lt_succ_of_lt hbl
 ·refine Ao (fun t e₀1 => ?_) <| hv _ _ hP; obtain rfl := e₀1
  have k : Keeps s { s with heap := h', toks := tk } := ⟨h', tk, rfl, fun c o e => hk c o (by simp; exact ne_of_lt (lt_size e)) (get?_push_of_some _ e)⟩
  refine Av (fun h1 h2 => ?_) <| JL (fun j => ns.getD j 0) (ws.toArray.size - 1)
  refine .keeps P k (AT _ _) (h _ ?_ fun x hx => ?_)
  ·rcases max_of hne (argBest (fun i j => decide (ns.getD i 0 > ns.getD j 0)) (ws.toArray.size - 1)) with q | q
   ·exact q
   ·rw [← hlen] at q; exact absurd (lt_of_le_of_lt h1 (Nat.sub_lt (by rw [hlen]; exact hne) (by decide))) (Nat.not_lt.mpr q)
  ·obtain ⟨j, hj, rfl⟩ := getElem_of_mem hx
   have := h2 j (by exact B7 0x5a808091601412a0852814023 rt hlen hj (sub_add_cancel (Aa 0x2424021228200408422 rt hne hlen)))
   simpa [getD, getElem?_eq_getElem hj] using this
theorem Qy {a : Int} (hh : A.handled = none) (h : Q (.int (if a < b then b else a)) L) : As X A (.val (.builtin "max")) [.int a, .int b] [] L Q := fun Z s E fv vs kvs P Vf Vs Ks => by
 apply AI Vf
 apply Vs.cons_el; intro v r V y1
 apply y1.cons_el; intro v2 r2 V2 y2
 apply y2.nil_el
 cases Ks
 apply Ax V; intro t
 apply Ax V2; intro u
 have ht : (s.heap.push { cls := .type "tuple", data := .seq #[Value.int a t, .int b u] }).IsTuple s.heap.objs.size #[Value.int a t, .int b u] := ⟨_, get?_push_size _ rfl, rfl, _, rfl⟩
 have hv : ∀ (i : Nat) (v : Value), (#[Value.int a t, Value.int b u])[i]? = some v → ∃ t', v = Value.int (([a, b] : List Int).getD i 0) t' := fun i v hv => by
  match i, hv with
  | 0, hv => cases hv; exact ⟨t, rfl⟩
  | 1, hv => cases hv; exact ⟨u, rfl⟩
  | i + 2, hv => simp at hv
 have hsz : (s.heap.push { cls := .type "tuple", dict := none, data := .seq #[Value.int a t, .int b u] }).objs.size = s.heap.objs.size + 1 := size_push ..
 refine call_max_two (wpAny_pyIter_tuple ht ⟨_, _, _, _, _, _, _, rfl, Walks.tuple (A := A.in1) hh _ s.heap.objs.size (by dsimp only; rw [hsz]; exact ne_of_lt (lt_succ_self _)) #[Value.int a t, .int b u], ⟨⟨_, get?_push_size _ rfl, rfl, rfl⟩, ⟨_, get?_push_of_some _ (get?_push_size _ rfl), rfl, _, rfl⟩⟩, fun c hc => ?_, succ_pos _, CmpOf.ints_gt (fun j => ([a, b] : List Int).getD j 0) hv, fun v h' tk hP hk => ?_⟩)
 ·dsimp only; rw [size_push, hsz]
  simp at hc
  rcases hc with rfl | rfl
  ·exact lt_succ_self _
  ·exact lt_succ_of_lt (lt_succ_self _)
 ·refine Ao (fun t' e₀1 => ?_) <| hv _ _ hP; obtain rfl := e₀1
  have k : Keeps s { s with heap := h', toks := tk } := ⟨h', tk, rfl, fun c o e => hk c o (by simp; exact ne_of_lt (lt_succ_of_lt (lt_size e))) (get?_push_of_some _ (get?_push_of_some _ e))⟩
  refine .keeps P k (AT _ _) ?_
  have e : ([a, b] : List Int).getD (argBest (fun i j => decide (([a, b] : List Int).getD i 0 > ([a, b] : List Int).getD j 0)) ((#[Value.int a t, .int b u] : Array Value).size - 1)) 0 = if a < b then b else a := by
   show ([a, b] : List Int).getD (if decide (b > a) = true then 1 else 0) 0 = _
   by_cases hc : a < b
   ·rw [decide_eq_true (show b > a from hc), if_pos rfl, if_pos hc]; rfl
   ·rw [decide_eq_false (show ¬ b > a from hc), if_neg (by decide), if_neg hc]; rfl
  rw [e]; exact h
theorem Ha {l : Addr} {vs : List Value} {k : Int} {Q : Unit → Shared → Prop} (ho : s.heap.get? l = some (Bh vs n))
  (h0 : 0 ≤ k) (hfit : k < 2 ^ 63) (hn : k < vs.toArray.size) (hQ : Q () { s with heap := s.heap.update l (Obj.mapSeq (·.setIfInBounds k.toNat v)) }) :
  wpAny (model prog w) A (setItem (.ref l) (.int k t) v) Q E s := by
 have hl := Ah ho
 unfold setItem
 try with_reducible refine wpAny_holding ?_
 first | refine wpAny_bind (wpAny_pure ?_) | skip
 refine wpAny_bind (wpAny_sequenceKey hl.typeIs (by decide) ?_)
 refine wpAny_bind (wpAny_callSpecial?_slot (name := ofString "__setitem__") hl.typeIs slot_list_setitem
  (wpAny_call_entry slot_list_setitem hl.typeIs entry_list_setitem ?_ (args_list_setitem _ _ _)))
 show wpAny _ _ (Builtin.List.listSubscript? (.int k t) >>= _) _ _ s
 refine wpAny_bind (wpAny_listSubscript_int (fitsIndex_of h0 hfit) ?_)
 clear hfit
 refine Ao (fun j e₀1 => ?_) <| Int.eq_ofNat_of_zero_le h0; obtain rfl := e₀1
 have hj : j < vs.toArray.size := by exact Aa 0x250148d0320421 rt hn
 have hx' : vs.toArray[j]? = some vs.toArray[j] := Array.getElem?_eq_getElem hj
 show wpAny _ _ ((seqItemAt l j >>= fun r => pure (r.map (j, ·))) >>= _) _ _ s
 refine wpAny_bind (wpAny_bind (wpAny_seqItemAt ho rfl (wpAny_pure ?_)))
 rw [hx']
 show wpAny _ _ (setSeqItemAt l j v >>= _) _ _ s
 refine wpAny_bind (wpAny_setSeqItemAt ho rfl ?_)
 first
  | exact wpAny_bind (wpAny_pure (wpAny_pure ⟨.none, rfl, wpAny_pure hQ⟩))
  | exact wpAny_pure ⟨.none, rfl, wpAny_pure hQ⟩
theorem Hb {o i : PySem.Expr} (hsw : swapsWith value (some (.Subscript o i pos')) pos.line env = pure false)
  (h : WE X A env nm m (eval value env) L fun p L1 => WE X A env nm m (eval o env) L1 fun q L2 => WE X A env nm m (eval i env) L2 fun r L3 => ∃ a k ps L', q = .ref a ∧ r = .int k ∧ 0 ≤ k ∧ k < 2 ^ 62 ∧ k.toNat < ps.length ∧ BQ L3 a (.list ps) (.list (ps.set k.toNat p)) L' ∧ Qn m L') :
  WS X A env nm m (exec (.Assign [.Subscript o i pos'] value pos) env) L Qn Qr Qb Qc := fun Z s E F => by
 refine wpAny_Assign_Subscript (wv (h Z s E F) fun u s1 p L1 h1 P1 U e1 => ?_) hsw
 have F1 := F.ext e1 P1
 refine wv (h1 Z s1 E F1) fun v s2 q L2 h2 P2 V e2 => ?_
 have F2 := F1.ext e2 P2
 refine wv (h2 Z s2 E F2) fun w s3 r L3 o2 P3 W e3 => ?_
 obtain ⟨a, k, ps, L', hq, hr, h0, hk, hlt, S, hQ⟩ := o2
 subst hq hr
 have F3 := F2.ext e3 P3
 rw [Cw V]
 apply Ax W; intro t
 refine B8 (fun ws n ho rl => ?_) <| P3.led _ S.mem
 have U3 := (U.ext e2).ext e3
 have st : Ae (dz L3 Z) s3.heap (ps.set k.toNat p) (ws.set k.toNat u) := by
  generalize k.toNat = j
  clear h1 h2 hlt S hQ W ho
  induction ps generalizing ws j with
  | nil => apply rl.nil_el; exact .nil
  | cons q ps ih =>
   apply rl.cons_el; intro v r V1 V2
   cases j with
   | zero => exact .cons U3 V2
   | succ j => exact .cons V1 (ih r V2 j)
 refine Ha ho h0 (by exact FI 0x800000000000000069684200000000000000034b420421 rt hk) (by rw [size_toArray, rl.length]; exact l21 0x2474251032c12808422 rt hlt (toNat_of_nonneg (FI 0x50041d00418421 rt h0))) ?_
 refine Ao (fun n' ho' => ?_) <| HW (f := (·.setIfInBounds k.toNat u)) ho
 refine Av (fun P4 e4 => ?_) <| P3.set (tk := s3.toks) S (Heap.SameBut.update ..) ho' (by simpa using st)
 exact ⟨.next, m, L', hQ, F3.ext e4 P4, rfl, (((e1.trans e2).trans e3).trans e4).toS⟩
theorem JG {x1 x2 x3 : Str} {p1 p2 p3 : Pos} (hsw : swapsWithSole [.Name x1 p1, .Name x2 p2, .Name x3 p3] value pos.line env = pure false)
  (h : WE X A env nm m (eval value env) L fun p L1 => WAs X A env nm m (assign (.Name x1 p1) env) p L1 fun m1 L2 => WAs X A env nm m1 (assign (.Name x2 p2) env) p L2 fun m2 L3 => WAs X A env nm m2 (assign (.Name x3 p3) env) p L3 Qn)
  (he : (assignEach [.Name x1 p1, .Name x2 p2, .Name x3 p3] env).map (·.2) = [assign (.Name x1 p1) env, assign (.Name x2 p2) env, assign (.Name x3 p3) env])
  (hw : swappedStores [.Name x1 p1, .Name x2 p2, .Name x3 p3] value env = pure none) : WS X A env nm m (exec (.Assign [.Name x1 p1, .Name x2 p2, .Name x3 p3] value pos) env) L Qn Qr Qb Qc := fun Z s E F => by
 refine wpAny_Assign_three (wv (h Z s E F) fun v s1 p L1 h1 P1 V1 e1 => ?_) he hw
 have F1 := F.ext e1 P1
 refine wa (h1 Z s1 E v F1 V1) fun _ s2 m2 L2 h2 F2 e2 => ?_
 have V2 := V1.kp (e2.kp F1)
 refine wa (h2 Z s2 E v F2 V2) fun _ s3 m3 L3 h3 F3 e3 => ?_
 have V3 := V2.kp (e3.kp F2)
 exact wa (h3 Z s3 E v F3 V3) fun _ s4 m4 L4 h4 F4 e4 => ⟨.next, m4, L4, h4, F4, rfl, ((e1.toS.trans e2).trans e3).trans e4⟩
end
section
open PySem.SeqAt
noncomputable abbrev P6 (params : Arguments) (body : PySem.Expr) (scope : Scope) (qual : Str) (pm ctv doc : Value) (c : Addr) : FuncData :=
 { fnX "<lambda>" qual params [] scope [] .none .none doc pm none (.ref c) ctv with body := .expr body }
theorem Nu {body : PySem.Expr} (x : Aj D h (.lam params body scope) v) :
  ∃ a c co qual pm ctv doc vs t, v = .ref a ∧ (h.get? a = some (Mt params body scope qual pm ctv doc c) ∧ a ∉ D) ∧ (h.get? c = some co ∧ c ∉ D) ∧ co.data = .fields vs ∧ vs[1]? = some (.str qual t) := x
theorem JC {P : Value → Value → Prop} {x y z : Value} {r : List Value} (h : TriplesOk (x :: y :: z :: r)) (k : ∀ a t b u, TriplesOk r → P (.int a t) (.int b u)) : P x y := by
 cases x with
 | int a t =>
  cases y with
  | int b u => exact k a t b u h
  | _ => exact False.elim h
 | _ => exact False.elim h
theorem CY (h0 : P []) (h3 : ∀ a t b u z r, TriplesOk r → P r → P (.int a t :: .int b u :: z :: r)) : ∀ {l : List Value}, TriplesOk l → P l
 | [], _ => h0
 | [_], h => by cases ‹Value› <;> exact False.elim h
 | [x, y], h => by
  cases x with
  | int a t => cases y <;> exact False.elim h
  | _ => exact False.elim h
 | x :: y :: z :: r, h => JC (P := fun x y => P (x :: y :: z :: r)) h fun a t b u hr => h3 a t b u z r hr (CY h0 h3 hr)
theorem Iu {cv : Value} {l : List Value} (ht : TriplesOk l) (k : BC h D qual l) (e : codeAmong pos l = some cv) : ∃ a co vs t, cv = .ref a ∧ h.get? a = some co ∧ a ∉ D ∧ co.data = .fields vs ∧ vs[1]? = some (.str qual t) := by
 refine CY (P := fun l => BC h D qual l → codeAmong pos l = some cv → _) (fun _ e => nomatch e) (fun a t b u z r _ ih k e => ?_) ht k e
 have e' : (if (_ : Bool) = true then some z else codeAmong pos r) = some cv := e
 split at e'
 ·cases e'; exact k.1
 ·exact ih k.2 e'
theorem Jn {a b : Value} {c : Addr} {co : Obj} {vs : Array Value} (hc : h.get? c = some co) (hn : c ∉ D) (hd : co.data = .fields vs) (hq : vs[1]? = some (.str qual t))
  {l : List Value} (ht : TriplesOk l) (k : BC h D qual l) : BC h D qual (l ++ [a, b, .ref c]) ∧ True :=
 ⟨CY (P := fun l => BC h D qual l → BC h D qual (l ++ [a, b, .ref c])) (fun _ => ⟨⟨c, co, vs, t, rfl, hc, hn, hd, hq⟩, trivial⟩) (fun _ _ _ _ _ _ _ ih k => ⟨k.1, ih k.2⟩) ht k, trivial⟩
theorem HZ {a : Int} {u : Tok} {c : Value} {l : List Value} (h : TriplesOk l) : TriplesOk (l ++ [.int a t, .int b u, c]) :=
 CY (P := fun l => TriplesOk (l ++ [.int a t, .int b u, c])) trivial (fun _ _ _ _ _ _ _ ih => ih) h
theorem H8 {body : PySem.Expr} {c P : Addr} (hm : (P, AO.tab c qual) ∈ L) (hcode : env.code = .ref c) (hqual : env.qual ++ "<lambda>" = qual) (hg0 : env.globals = mainGlobals)
  (hfree : ∀ x ∈ scope.names, x.2 ≠ .free) (hd : defaultsOf params env = ([], [])) (hb : ∀ h : Heap, (∀ b o, X.h₀.get? b = some o → h.get? b = some o) → P ≠ mainGlobals → h.BuiltinsAt X.mg P) (h : Q (.lam params body scope) L) :
  WE X A env nm m (eval (.Lambda params body scope pos) env) L Q := fun Z s E F => by
 have H := F.hp
 rw [arm_eval_Lambda, hd]
 refine wpAny_bind (wpAny_pure (wpAny_bind (wpAny_holding (wpAny_pure ?_))))
 rw [hqual]
 refine QK (fun tps hP C hcn ht hk => ?_) <| H.led _ hm
 have hPd : P ∈ dom L := AX hm
 have hgs := X.g.keeps H.keep
 have hgP : mainGlobals ≠ P := fun q => by
  refine CQ (fun o _ _ e _ => ?_) <| X.g
  exact H.base e (mem_append_left _ (q ▸ hPd))
 have hB := hb s.heap H.keep (Ne.symm hgP)
 cases hca : codeAmong pos tps.toList with
 | some cv =>
  refine K3 (fun c' co vs t e₀4 hco hcn' hcd hcq => ?_) <| Iu ht hk hca; obtain rfl := e₀4
  refine kla_makeFunctionHit (closureFor_none hfree) hg0 hgs hcode C hP ht hca hB fun ctv h' tk hk1 hsz => ?_
  have k1 : Keeps s { s with heap := h', toks := tk } := ⟨h', tk, rfl, hk1⟩
  have H1 := H.keeps k1
  have k2 := A9 { s with heap := h', toks := tk } { cls := .type "function", data := .func (kla_fn "<lambda>" qual params body scope [] ((X.mg "__name__").getD .none) (.ref c') ctv) } tk
  refine ⟨_, L, h, H1.keeps k2, ?_, (BF.keeps k1).trans (.keeps k2)⟩
  exact Exists.intro (h'.objs.size) ⟨c', co, qual, _, ctv, .none, vs, t, rfl, ⟨get?_push_size _ rfl, H1.new (le_refl _)⟩, ⟨get?_push_of_some _ (hk1 _ _ hco), hcn'⟩, hcd, hcq⟩
 | none =>
  refine kla_makeFunction (closureFor_none hfree) hg0 hgs hcode C hP ht hca hgP hB fun c' ctv h' tk hx hge hlt hrec htb => ?_
  refine OR (fun c₂ oc vs t e2 hoc hcd hcq => ?_) <| hrec
  cases e2
  have S : ∀ {L : Ai}, (P, AO.tab c qual) ∈ L → BQ L P (.tab c qual) (.tab c qual) L := fun {L} hm => by
   induction L with
   | nil => cases hm
   | cons y L ih =>
    rcases List.mem_cons.mp hm with q | q
    ·subst q; exact .here
    ·exact .there (ih q)
  have hc'n : c' ∉ dz L Z := H.new hge
  have kp : Kp (dz L Z) (dz L Z) s.heap h' := fun b o e n => ⟨hx b o (fun q => n (q ▸ mem_append_left _ hPd)) e, n⟩
  have H1 : Hp X A.handled Z L { s with heap := h', toks := tk } := by
   refine ⟨fun b o e => hx b o (fun q => H.base e (q ▸ mem_append_left _ hPd)) (H.keep b o e), H.os, H.bare, fun x hx' => ?_, H.nodup, H.fresh, H.apart, fun b hb' => ?_, H.held.kp kp⟩
   ·rcases (S hm).inv H.nodup x hx' with q | ⟨q, hne⟩
    ·subst q
     refine ⟨_, htb, Hl kp hcn C, hcn, ?_, ?_⟩
     ·rw [show (tps ++ #[rawInt pos.line, rawInt pos.col, Value.ref c']).toList = tps.toList ++ [.int pos.line 0, .int pos.col 0, .ref c'] by simp [rawInt]]
      exact HZ ht
     ·rw [show (tps ++ #[rawInt pos.line, rawInt pos.col, Value.ref c']).toList = tps.toList ++ [rawInt pos.line, rawInt pos.col, .ref c'] by simp]
      exact (Jn hoc hc'n hcd hcq ht (hk.kp kp)).1
    ·exact BP.kp kp (fun ob e => hx _ _ hne e) (H.led x q)
   ·refine Ao (fun o e => ?_) <| H.zone b hb'
    exact ⟨o, hx b o (fun q => H.apart P hPd (by have q' : b = P := q; rw [← q']; exact hb')) e⟩
  have e1 : BF L L s { s with heap := h', toks := tk } := ⟨fun b o e n => ⟨hx b o (fun q => n (q ▸ hPd)) e, n⟩, fun _ _ e => e, fun b o e => by
   by_cases q : b = P
   ·exact ⟨_, q ▸ htb⟩
   ·exact ⟨o, hx b o q e⟩⟩
  have k2 := A9 { s with heap := h', toks := tk } (kla_obj "<lambda>" qual params body scope [] ((X.mg "__name__").getD .none) c' ctv) tk
  refine ⟨_, L, h, H1.keeps k2, ?_, e1.trans (.keeps k2)⟩
  exact Exists.intro (h'.objs.size) ⟨c', oc, qual, _, ctv, .none, vs, t, rfl, ⟨get?_push_size _ rfl, H1.new (le_refl _)⟩, ⟨get?_push_of_some _ hoc, hc'n⟩, hcd, hcq⟩
theorem Iq {body : PySem.Expr} (hroom : A.depth < recursionLimit) (hsc : Eg scope)
  (hbind : ∀ qual pm ctv doc c, AM X (P6 params body scope qual pm ctv doc c) ps ks bs) (bn : List Str) (hb0 : bs.map (·.1) = bn) (hbn : Dc (bn.map Str.code) = true)
  (hbk : ∀ x ∈ bn, (x, NameKind.local) ∈ scope.names ∨ (x, NameKind.cell) ∈ scope.names) (I : Eu X bs scope.names m₀) (hnf : ∀ x ∈ scope.names, x.2 ≠ .free) (hco : scope.isCoroutine = false) (hgen : scope.isGenerator = false)
  (h : ∀ env : Env, A8 env scope.names → WE X (A.deeper env) env scope.names m₀ (eval body env) L Q) : As X A (.lam params body scope) ps ks L Q := fun Z s E fv vs kvs P Vf Vs Ks => by
 obtain ⟨a, c, co, qual, pm, ctv, doc, cvs, t, rfl, ho, hc, hcd, hcq⟩ := Nu Vf
 subst hb0
 have hbn : (bs.map (·.1)).Nodup := (List.pairwise_map.mp (Ce hbn)).imp fun hne e => hne (by rw [e])
 refine Ar (fun binds hB KB => ?_) <| hbind qual pm ctv doc c _ Z L s vs kvs P Vs Ks
 refine wpAny_call (kla_callFunE hroom ho.1 rfl hco hgen rfl ⟨c, co, cvs, t, rfl, hc.1, hcd, hcq⟩ (hB _ _ _ _ ?_))
 refine wpAny_newFunctionEnv_cells hsc.kind (fun x hx => ?_) fun env he s₁ x => ?_
 ·have hx' : x.1 ∈ bs.map (·.1) := by rw [← KB.names]; exact mem_map_of_mem hx
  rcases hbk _ hx' with q | q
  ·exact .inl (Au hsc.nodup q)
  ·exact .inr ⟨Au hsc.nodup q, AG (.inl q)⟩
 refine B8 (fun h₁ tk hs₁ hk₁ => ?_) <| x.done
 have k1 : Keeps s s₁ := ⟨h₁, tk, hs₁, hk₁⟩
 have hL : env.locals = s.heap.objs.size := by rw [he]; rfl
 have hcells : env.cells = cellsFrom (s.heap.objs.size + 1) scope.names [] := by rw [he]; rfl
 have hkd : ∀ y k, (y, k) ∈ scope.names → env.kindOf y = some k := fun y k hm => by rw [he]; exact Au hsc.nodup hm
 have cinj : ∀ y z c, env.cells.lookup y = some c → env.cells.lookup z = some c → y = z := fun y z c h1 h2 => name_of_addr x.apart (mem_of_lookup h1) (mem_of_lookup h2)
 have ok : A8 env scope.names := by
  refine ⟨by rw [he]; exact hsc.kind, by rw [he]; rfl, by rw [he]; rfl, fun y k hm => ⟨.inl (hkd y k hm), hsc.plain y k hm⟩, fun y k hm hk => ?_, hsc.nodup, cinj⟩
  rcases hk with rfl | rfl
  ·have := AG (n := s.heap.objs.size + 1) (acc := []) (.inl hm)
   rw [hcells]; exact Option.isSome_iff_exists.mp this
  ·exact absurd rfl (hnf _ hm)
 have hzone : ∀ a ∈ env.locals :: env.cells.map (·.2), s.heap.objs.size ≤ a ∧ ∃ o, s₁.heap.get? a = some o := fun a ha => by
  rcases List.mem_cons.mp ha with rfl | ha
  ·refine CQ (fun o _ _ e _ => ?_) <| x.toInCall.ns
   exact ⟨le_of_eq hL.symm, o, e⟩
  ·refine Ar (fun o₀0 hm e₀2 => ?_) <| List.mem_map.mp ha; obtain ⟨y, c⟩ := o₀0; obtain rfl := e₀2
   have hl : env.cells.lookup y = some c := by
    refine Au ?_ hm
    rw [hcells]
    exact Ck hsc.nodup .nil (fun x hx => by cases hx)
   refine Ar (fun o e _ => ?_) <| x.cell y c hl
   have := x.above y c hm
   rw [hL] at this
   exact ⟨le_of_lt this, o, e⟩
 refine Av (fun P1 kp1 => ?_) <| P.grow k1 hzone
 have F : Fm X A.handled (env.locals :: env.cells.map (·.2) ++ Z) env scope.names m₀ L s₁ := by
  refine ⟨P1, ok, fun y k p hm => ?_, ⟨_, x.toInCall.ns⟩, by simp, fun y c e => ?_⟩
  ·rcases I.inv y k p hm with ⟨hb, hk⟩ | ⟨rfl, hgl⟩
   ·refine Ar (fun v hv V => ?_) <| KB.mem hb
    have ndb : (binds.map (·.1)).Nodup := by rw [KB.names]; exact hbn
    have hm' := (of_mem_zip hm).1
    rcases hk with rfl | rfl
    ·exact ⟨_, v, x.toInCall.ns, DS ndb hv (hkd _ _ hm'), V.kp kp1⟩
    ·refine Ao (fun c hc => ?_) <| ok.cells y .cell hm' (.inl rfl)
     exact ⟨c, v, hc, by have := x.cell y c hc; rw [EZ ndb hv (hkd _ _ hm')] at this; exact this, V.kp kp1⟩
   ·exact hgl
  ·have hm := mem_of_lookup e
   have hlt := x.above y c hm
   refine ⟨by simp; exact .inr (.inl ⟨y, hm⟩), ne_of_gt hlt, _, x.cell y c e⟩
 refine ⟨(X.nolimit.keeps P.keep).keeps hk₁ |> fun q => by rw [hs₁]; exact q, kla_codeExpr (Ap (h env ok _ s₁ _ F) fun v s2 h2 => ?_)⟩
 obtain ⟨p, L', q, P2, V2, e2⟩ := h2
 have ext : BF L L' s s2 := by
  refine ⟨fun a o e n => e2.heap a o (by rw [hs₁]; exact hk₁ a o e) n, fun g z e => e2.gens g z (by rw [hs₁]; exact e), fun a o e => e2.live a o (by rw [hs₁]; exact hk₁ a o e)⟩
 exact ⟨p, L', q, P2.shrink, V2.shrink, ext⟩
end
theorem WI.mono {t : Sem Value} {Q Q' : List PV → (Ai → Prop) → Ai → Prop} (h : WI X A env nm m t L tg Q) (k : ∀ ps Ok L', Q ps Ok L' → Q' ps Ok L') : WI X A env nm m t L tg Q' := fun Z s E F =>
 Ap (h Z s E F) fun _ _ x => by
  refine CQ (fun ps Ok L' q r => ?_) x
  exact ⟨ps, Ok, L', k ps Ok L' q, r⟩
noncomputable abbrev emN (elt target iter : PySem.Expr) (ifs : List PySem.Expr) (target' iter' : PySem.Expr) (ifs' : List PySem.Expr) (scope : Scope) (pos : Pos) : Env → Addr → Sem Unit := fun cenv D => do
 let x ← eval iter' cenv
 standAt iter'.pos
 let x ← foldedSetIterable iter' cenv x
 let _ ← runOwn (.compStart (.ListComp elt [⟨target, iter, ifs, 0⟩, ⟨target', iter', ifs', 0⟩] scope pos) 1 (← holding [x] (pyIter x)) (.ref D) cenv) cenv
theorem Fh {x : List PV} {Q : AU → Ai → List PV → Prop} (hs : ∀ x, foldedSetIterable iter' env x = pure x) (ht : tg target')
  (h : WI X A env nm m (eval iter' env) L tg fun ps Ok L1 => ∃ J : Nat → AU → Ai → List PV → Prop, J 0 m L1 x ∧
   (∀ i p m' L' x, ps[i]? = some p → J i m' L' x → Ok L' ∧ WAs X A env nm m' (assign target' env) p L' fun m2 L2 => WTs X A env nm m2 ifs' L2 (fun L3 => WEm Cq X A env nm m2 (emL elt env) x L3 (J (i + 1))) fun L3 => J (i + 1) m2 L3 x) ∧
   (∀ m' L' x, J ps.length m' L' x → Ok L' ∧ Q m' L' x)) : WEm Cq X A env nm m (emN elt target iter ifs target' iter' ifs' scope pos env) x L Q :=
 MT (e := .ListComp elt [⟨target, iter, ifs, 0⟩, ⟨target', iter', ifs', 0⟩] scope pos) (depth := 1) (g := ⟨target', iter', ifs', 0⟩) (inner := emL elt env) (tg := tg) (fun _ _ => rfl) (fun _ _ => rfl) (fun _ _ => rfl) (fun _ _ => rfl) (fun _ _ => rfl) rfl rfl hs (fun it D => Lh.turn (X := X) (A := A) env it D) ht h
theorem OG (hs : ∀ x, foldedSetIterable iter env x = pure x) (hsc : Eg scope)
  (h : Dx Cq X A env nm m L ⟨target, iter, ifs, 0⟩ scope tg (emN elt target iter ifs target' iter' ifs' scope pos) [] fun L' x => ∀ D, ∃ p L2, E7 D x L' p L2 ∧ Q p L2) : WE X A env nm m (eval (.ListComp elt [⟨target, iter, ifs, 0⟩, ⟨target', iter', ifs', 0⟩] scope pos) env) L Q :=
 Kw D0 h rfl hs hsc IR (fun E s Q => EJ) rfl
theorem MY {y : Str} (hs : ∀ x, foldedSetIterable iter env x = pure x) (hsc : Eg scope)
  (hsw : swapsWith (.ListComp elt [⟨target, iter, ifs, 0⟩, ⟨target', iter', ifs', 0⟩] scope pos) (some (.Name y py)) spos.line env = pure true)
  (h : Dx Cq X A env nm m L ⟨target, iter, ifs, 0⟩ scope tg (emN elt target iter ifs target' iter' ifs' scope pos) [] fun L' x => ∀ D, ∃ p L2, E7 D x L' p L2 ∧ ∃ k m', Stn nm m y k p m' ∧ (k = .local ∨ k = .cell) ∧ Qn m' L2) :
  WS X A env nm m (exec (.Assign [.Name y py] (.ListComp elt [⟨target, iter, ifs, 0⟩, ⟨target', iter', ifs', 0⟩] scope pos) spos) env) L Qn Qr Qb Qc :=
 DQ D0 h rfl hs hsc IR (fun E s Q => EJ) hsw fun _ => rfl
theorem Hp.write (P : Hp X H Z L s) (ha : a ∈ Z) (hs : Heap.SameBut a s.heap h') (ho : ∃ o, h'.get? a = some o)
  : Hp X H Z L { s with heap := h', toks := tk } ∧ Kp (dz L Z) (dz L Z) s.heap h' := by
 have kp : Kp (dz L Z) (dz L Z) s.heap h' := fun b o e n => ⟨(hs.2 b (fun q => n (mem_append_right _ (q ▸ ha)))).trans e, n⟩
 refine ⟨⟨fun b o e => (hs.2 b (fun q => ?_)).trans (P.keep b o e), P.os, P.bare, fun x hx => BP.kp kp (fun ob e => (hs.2 _ (fun q => P.apart _ (AX hx) (by rw [q]; exact ha))).trans e) (P.led x hx), P.nodup, P.fresh, P.apart,
  fun b hb => ?_, P.held.kp kp⟩, kp⟩
 ·exact P.base e (mem_append_right _ (q ▸ ha))
 ·by_cases q : b = a
  ·exact q ▸ ho
  ·refine Ao (fun o e => ?_) <| P.zone b hb; exact ⟨o, (hs.2 b q).trans e⟩
section
variable {M : Model} {R : GenEnd} {c : Code}
 {K : Flow → Sem PySem.Fin} {H : Value → Sem PySem.Fin}
theorem OB
  (h : wpAny M (A.over c fs) (isTrue test env (eval test env)) (fun b s' => if b = true then Seg M A R Y n s₀ c ((execs body env).wrap K H gd lv) fs s' else Seg M A R Y n s₀ c ((execs orelse env).wrap K H gd lv) fs s') (fun _ _ => False) s) :
  Seg M A R Y n s₀ c ((exec (.If test body orelse pos) env).wrap K H gd lv) fs s := by
 rw [exec_If]
 show Seg M A R Y n s₀ c (.at pos fun _ => (isTrue test env (eval test env) >>= fun b => if b = true then execs body env else execs orelse env).wrap K H gd lv) fs s
 refine seg_at ?_
 rw [Sem.bind_eq_wrap', Sem.wrap_wrap]
 refine seg_wrap (wpAny_mono h (fun b s' hb => ?_) fun _ _ x => x.elim)
 cases b
 ·exact hb
 ·exact hb
theorem GL {m : Sem Flow} (h : wpAny M (A.over c fs) m (fun f s' => Seg M A R Y n s₀ c (K f) fs s') (fun _ _ => False) s) : Seg M A R Y n s₀ c (m.wrap K H gd lv) fs s :=
 seg_wrap (wpAny_mono h (fun _ _ x => x) fun _ _ x => x.elim)
noncomputable abbrev Pg (env : Env) (K : Flow → Sem PySem.Fin) (H : Value → Sem PySem.Fin) (gd : Bool → Bool) (lv : List Value → List Value) : Result → Sem PySem.Fin := fun r =>
 ((match r with | .ok f => (.pure f : Sem Flow) | .error e => .raise e).onRaise fun (x : Value) => do
    if (← field x 1) == Value.none then unsupported "frame.own-activation:exception-without-traceback"
    setFlight x env.frame).wrap K H gd lv
theorem NH (hs : ∀ x, foldedSetIterable iter env x = pure x)
  (h : wpAny M (A.over c fs) (eval iter env) (fun x s₁ => wpAny M (A.over c fs) (pyIter x) (fun it s₂ =>
    ∀ p, Seg M A R Y n s₀ (.forLoop target it body orelse env) (M.den (.forLoop target it body orelse env)) (.ret (Pg env K H gd lv) none (gd false) (lv []) c p [] :: fs) s₂) (fun _ _ => False) s₁) (fun _ _ => False) s) :
  Seg M A R Y n s₀ c ((exec (.For target iter body orelse pos) env).wrap K H gd lv) fs s := by
 rw [exec_For]
 refine seg_at ?_
 show Seg M A R Y n s₀ c ((eval iter env >>= fun x => foldedSetIterable iter env x >>= fun x => standAt iter.pos >>= fun _ => holding [x] (pyIter x) >>= fun it => runOwn (.forLoop target it body orelse env) env).wrap K H gd lv) fs s
 rw [Sem.bind_eq_wrap', Sem.wrap_wrap]
 refine seg_wrap (wpAny_mono h (fun x s₁ h₁ => ?_) fun _ _ x => x.elim)
 rw [hs x]
 show Seg M A R Y n s₀ c ((standAt iter.pos >>= fun _ => holding [x] (pyIter x) >>= fun it => runOwn (.forLoop target it body orelse env) env).wrap K H gd lv) fs s₁
 refine seg_at ?_
 show Seg M A R Y n s₀ c ((holding [x] (pyIter x) >>= fun it => runOwn (.forLoop target it body orelse env) env).wrap K H gd lv) fs s₁
 rw [Sem.bind_eq_wrap', Sem.wrap_wrap]
 refine seg_wrap (wpAny_holding (wpAny_mono h₁ (fun it s₂ h₂ => ?_) fun _ _ x => x.elim))
 exact seg_call h₂
end
section
variable {R : GenEnd}
abbrev M1 (c : Code) : Flow → Sem PySem.Fin := fun f => match f with
 | .next | .cont => .pure (.again c)
 | .brk => .pure (.done .next)
 | .ret v => .pure (.done (.ret v))
noncomputable abbrev goH (env : Env) : Value → Sem PySem.Fin := fun e => (do noteFrame e env; theTreesLotGoes e : Sem Unit).bind fun _ => .raise e
theorem Fx {it : Value}
  (h : wpAny (model prog w) (A.over (.forLoop target it body orelse env) fs) (pyNext it) (fun r s' => match r with
   | none => Seg (model prog w) A R Y n s₀ (.block orelse env) ((model prog w).den (.block orelse env)) fs s'
   | some v => wpAny (model prog w) (A.over (.forLoop target it body orelse env) fs) (letOwnedTupleGo target it v) (fun _ s2 => wpAny (model prog w) (A.over (.forLoop target it body orelse env) fs) (assign target env v) (fun _ s3 =>
     Seg (model prog w) A R Y n s₀ (.forLoop target it body orelse env) ((execs body env).wrap (M1 (.forLoop target it body orelse env)) (goH env) id id) fs s3) (fun _ _ => False) s2) (fun _ _ => False) s') (fun _ _ => False) s) :
  Seg (model prog w) A R Y n s₀ (.forLoop target it body orelse env) ((model prog w).den (.forLoop target it body orelse env)) fs s := by
 show Seg _ A R Y n s₀ _ ((forTurn target it body orelse env).onRaise (fun x => do noteFrame x env; theTreesLotGoes x)) fs s
 unfold forTurn
 rw [Sem.onRaise_eq_wrap]
 refine seg_bind_wrap (wpAny_standAt ?_)
 refine seg_bind_wrap (Ap (wpAny_onRaise (wpAny_mono h (fun r s' h' => h') fun _ _ x => x.elim)) fun r s' h' => ?_)
 cases r with
 | none =>
  refine seg_again (by rfl) ?_
  exact h'
 | some v =>
  refine seg_bind_wrap (wpAny_mono h' (fun _ s2 h2 => ?_) fun _ _ x => x.elim)
  refine seg_bind_wrap (wpAny_mono h2 (fun _ s3 h3 => ?_) fun _ _ x => x.elim)
  rw [Sem.bind_eq_wrap', Sem.wrap_wrap]
  refine (congrArg (fun t => Seg (model prog w) A R Y n s₀ (.forLoop target it body orelse env) t fs s3) (Sem.wrap_congr (execs body env) _ _ (fun f => ?_) (fun e => rfl))).mpr h3
  cases f <;> rfl
theorem GZ {K : Result → Sem PySem.Fin} (h : Seg (model prog w) A R Y n s₀ (.block [] env) (leafOf (.ok .next)) fs s) : Seg (model prog w) A R Y n s₀ (.block [] env) ((model prog w).den (.block [] env)) fs s := h
end
section
open Sem (wp)
def Lg (d : Nat × Nat) : Around := { handled := none, depth := d.1, frames := none, guards := none, units := d.2 }
theorem HA (hA : A.handled = none) (f : Dy A d) (Γ : Ctx) (h : Γ.Woken A) : Γ.Woken (Lg d) := by
 refine Av (fun o₀0 h6 => ?_) <| h; obtain ⟨h1, h2, h3, h4, h5⟩ := o₀0
 refine ⟨⟨h1.trans hA, le_trans h2 f.1, fun l e => ?_, fun l e => ?_, le_trans h5 f.2⟩, h6⟩
 ·cases (show (none : Option (List Env)) = some l from e)
 ·cases (show (none : Option (List Code)) = some l from e)
section
variable {M : Model}
theorem NF {B : Around} {R : GenEnd} {gs : GenState}
  {r : Resume} {l : List Value} {k : GenResult → Sem α} {Q : α → Shared → Prop} (hAB : ∀ Γ : Ctx, Γ.Woken A → Γ.Woken B) (hg : s.gens[g]? = some gs)
  (hgo : gs.Goes M B R Y n r (s.setGen g .running))
  (hR : ∀ x s₁, R n (s.setGen g .running) x s₁ → wpAny M A (k (End.ret x).result) Q E (s₁.setGen g .finished))
  (hY : ∀ v s₁ gs', gs'.bare = true → Y (n - 1) (s.setGen g .running) v s₁ (fun r' s'' => match n with | 0 => False | m + 1 => gs'.Goes M B R Y m r' s'') →
   wpAny M A (k (.yielded v)) Q E (s₁.setGen g gs')) :
  wpAny M A (.resume g r l k) Q E s := by
 intro Γ p hΓ
 rw [Sem.wp_resume]
 have hB : ∀ c, (Γ.wake c p).Woken B := fun c => hAB _ (hΓ.wake c p)
 have fin : ∀ e₁ s₁, SegEnd R Y n (Seg.next M B R Y n) (s.setGen g .running) e₁ s₁ →
   wp M Γ (k e₁.result) (fun a _ s' => Q a s') (fun e _ s' => E e s') p (s₁.setGen g e₁.genState) := by
  intro e₁ s₁ he
  cases e₁ with
  | ret x => exact hR x s₁ he Γ p hΓ
  | susp v g₀ l₀ k₀ c₀ p₀ fs₀ =>
   refine hY v s₁ _ (End.bare_of_quiet he.1) ?_ Γ p hΓ
   cases n with
   | zero => exact he.2
   | succ m => exact he.2
 have hqt : ∀ e₁ s₁, SegEnd R Y n (Seg.next M B R Y n) (s.setGen g .running) e₁ s₁ → e₁.quiet = true := by
  intro e₁ s₁ he
  cases e₁ with
  | ret x => rfl
  | susp v g₀ l₀ k₀ c₀ p₀ fs₀ => exact he.1
 cases gs with
 | fresh c =>
  refine Av (fun e₀0 hs => ?_) <| hgo; obtain rfl := e₀0
  refine B8 (fun e₁ s₁ hr he => ?_) <| seg_iff.mp hs (Γ.wake c p) p rfl (hB c)
  exact ⟨_, _, by unfold Wakes; rw [hg]; exact ⟨e₁, s₁, hr, hqt e₁ s₁ he, rfl, rfl⟩, fin e₁ s₁ he⟩
 | suspended k₀ l₀ c₀ p₀ fs₀ cl =>
  refine B8 (fun e₁ s₁ hr he => ?_) <| seg_iff.mp hgo (Γ.wake c₀ p) p₀ rfl (hB c₀)
  exact ⟨_, _, by unfold Wakes; rw [hg]; exact ⟨e₁, s₁, hr, hqt e₁ s₁ he, rfl, rfl⟩, fin e₁ s₁ he⟩
 | running => exact hgo.elim
 | finished => exact hgo.elim
end
section
variable {B : Around}
theorem CX {gs : GenState} {P : Nat → Shared → Shared → Prop} {Q : Option Value → Shared → Prop} (hh : A.handled = none) (hAB : ∀ Γ : Ctx, Γ.Woken A.in1 → Γ.Woken B)
  (hl : s.heap.NoLimit) (hroom : A.depth < recursionLimit)
  (hg : s.heap.IsGen a g) (hgs : s.gens[g]? = some gs)
  (hgo : gs.Goes (model prog w) B (fun n s₀ r s₁ => r = .ok (.ret .none) ∧ P n s₀ s₁) Y n (.send .none) (s.setGen g .running))
  (hY : ∀ v s₁ gs', gs'.bare = true → Y (n - 1) (s.setGen g .running) v s₁ (fun r' s'' => match n with
    | 0 => False
    | m + 1 => gs'.Goes (model prog w) B (fun n s₀ r s₁ => r = .ok (.ret .none) ∧ P n s₀ s₁) Y m r' s'') → Q (some v) (s₁.setGen g gs'))
  (hP : ∀ s₁, P n (s.setGen g .running) s₁ → ∀ h', (∀ b o, s₁.heap.get? b = some o → h'.get? b = some o) → Q none { s₁.setGen g .finished with heap := h' }) :
  wpAny (model prog w) A (pyNext (.ref a)) Q E s := by
 unfold pyNext
 refine wpAny_bind (wpAny_attempt (wpAny_callSpecial?_slot (name := ofString "__next__") hg.typeIs slot_gen_next
  (wpAny_call_entry slot_gen_next hg.typeIs entry_gen_next ?_ (args_gen_next _))))
 show wpAny _ A.in1 (Builtin.Generator.genWake (.ref a) (.send .none)) _ _ s
 unfold Builtin.Generator.genWake
 refine wpAny_bind (wpAny_holding (wpAny_genNumber hg (wpAny_bind (wpAny_genState hgs ?_))))
 cases gs with
 | running => exact hgo.elim
 | finished => exact hgo.elim
 | _ =>
  refine wpAny_bind (wpAny_roomToWake hl hroom ?_)
  show wpAny _ A.in1 (.resume g (.send .none) [] _) _ _ s
  refine NF hAB hgs hgo (fun x s₁ hx => ?_) (fun v s₁ gs' hb hv => ?_)
  ·refine Av (fun e₀0 hp => ?_) <| hx; obtain rfl := e₀0
   show wpAny _ A.in1 (newExc (.type "StopIteration") [] >>= _) _ _ _
   refine wpAny_bind ?_
   simp only [newExc, newTuple]
   refine wpAny_bind (wpAny_newObj_type ?_ (by size_fits))
   refine wpAny_bind (m := firstArgMember _ _) (wpAny_of_eq (a := Value.none) (by first | rfl | (simp only [firstArgMember]; rfl)) ?_)
   refine wpAny_newObj_type ?_ (by size_fits)
   simp only [raiseNew]
   refine wpAny_bind (wpAny_bind (wpAny_handled ?_))
   first | rw [show A.in1.handled = none from hh] | rw [hh]
   refine wpAny_throw ?_
   refine wpAny_bind (wpAny_isInstance (T := "StopIteration") (b := true) ⟨_, get?_push_size _ rfl, rfl⟩ isSubtype_stop ?_)
   exact wpAny_pure (hP s₁ hp _ fun b o hb => get?_push_of_some _ (get?_push_of_some _ hb))
  ·exact wpAny_pure ⟨v, rfl, wpAny_pure (hY v s₁ gs' hb hv)⟩
end
end
noncomputable def own (X : Cx) (s : Shared) : List Addr := (List.range s.heap.objs.size).filter fun a => (X.h₀.get? a).isNone && (s.heap.get? a).isSome
theorem CU : a ∈ own X s ↔ X.h₀.get? a = none ∧ ∃ o, s.heap.get? a = some o := by
 unfold own
 rw [List.mem_filter, List.mem_range]
 constructor
 ·rintro ⟨_, h⟩
  simp only [and_eq_true, Option.isNone_iff_eq_none, Option.isSome_iff_exists] at h
  exact h
 ·rintro ⟨h, o, e⟩
  refine ⟨lt_size e, ?_⟩
  simp only [and_eq_true, Option.isNone_iff_eq_none, Option.isSome_iff_exists]
  exact ⟨h, o, e⟩
theorem Hp.led_live (P : Hp X H Z L s) (ha : a ∈ dom L) : ∃ o, s.heap.get? a = some o := by
 refine Ar (fun x hx e₀2 => ?_) <| List.mem_map.mp ha; obtain rfl := e₀2
 have := P.led x hx
 obtain ⟨b, o⟩ := x
 cases o with
 | list ps => refine B8 (fun vs n e _ => ?_) <| this; exact ⟨_, e⟩
 | tab c q => refine Ar (fun tps e _ => ?_) <| this; exact ⟨_, e⟩
 | attrs xs ps => refine CQ (fun es n vs e _ => ?_) <| this; exact ⟨_, e⟩
theorem Jq (P : Hp X H Z L s) (ha : a ∈ dz L Z) : a ∈ own X s := by
 refine CU.mpr ⟨P.fresh a ha, ?_⟩
 rcases List.mem_append.mp ha with q | q
 ·exact P.led_live q
 ·exact P.zone a q
theorem HM (P : Hp X none Z L s) : Hp X none (own X s) [] s :=
 ⟨P.keep, P.os, P.bare, (fun _ hx => nomatch hx), List.nodup_nil, fun a ha => (CU.mp ha).1, (fun _ ha => nomatch ha), fun a ha => (CU.mp ha).2, trivial⟩
theorem LD (h : AllBare s.gens) {y : GenState} (hy : y.bare = true) : AllBare (s.setGen g y).gens := fun z hz => by
 unfold Shared.setGen at hz
 dsimp only at hz
 obtain ⟨i, hi, e⟩ := Array.mem_iff_getElem.mp hz
 rw [Array.getElem_setIfInBounds (by simpa using hi)] at e
 split at e
 ·exact e ▸ hy
 ·exact h z (e ▸ Array.getElem_mem (by simpa using hi))
theorem Hp.setGen (P : Hp X H Z L s) {y : GenState} (hy : y.bare = true) : Hp X H Z L (s.setGen g y) :=
 ⟨P.keep, P.os, LD P.bare hy, P.led, P.nodup, P.fresh, P.apart, P.zone, P.held⟩
theorem O6 {H' : Option Value} (P : Hp X H Z L s) (P' : Hp X H' Z' L' s') : Kp (dz [] (own X s)) (dz [] (own X s')) s.heap s'.heap := fun a o e n => by
 cases q : X.h₀.get? a with
 | none => exact absurd (CU.mpr ⟨q, o, e⟩) n
 | some o' =>
  have e1 := P.keep a o' q
  rw [e] at e1
  cases e1
  exact ⟨P'.keep a o q, fun hm => by have := (CU.mp (show a ∈ own X s' from hm)).1; rw [q] at this; cases this⟩
theorem Fm.hop (F : Fm X none (own X s) env nm m [] s) (P : Hp X none Z' L' s') (hl : ∀ o, s.heap.get? env.locals = some o → s'.heap.get? env.locals = some o) (hc : ∀ x, env.cells.lookup x = none) :
  Fm X none (own X s') env nm m [] s' := by
 have kp := O6 F.hp P
 refine ⟨HM P, F.ok, fun x k p hm => (F.vals x k p hm).kp kp hl fun c o e => (by rw [hc x] at e; cases e), ?_, ?_, fun x c e => (by rw [hc x] at e; cases e)⟩
 ·refine DD (fun mv o es ep ho r => ?_) <| F.nsx; exact ⟨mv, o, es, ep, hl o ho, r⟩
 ·refine DD (fun mv o es ep ho r => ?_) <| F.nsx
  exact CU.mpr ⟨(CU.mp F.lz).1, o, hl o ho⟩
noncomputable def esc : Nat → Bool → List Nat → List (Nat × List Nat)
 | i, true, c :: l => (i, [92, c]) :: esc (i + 1) false l
 | i, false, c :: l => if c = 92 then esc (i + 1) true l else (i, [c]) :: esc (i + 1) false l
 | i, true, [] => [(i - 1, [92])]
 | _, false, [] => []
def B0 (x : Nat × List Nat) : PV := .tup [.int x.1, .str x.2]
inductive QO (X9 : Cx) (outs9 : List PV) (lo9 it9 e9 : Addr) (n9 : Nat) (s09 : Shared) (v9 : Value) (s'9 : Shared) (kap : Resume → Shared → Prop) : Prop
 | mk (i : Nat) (p : PV) (hi : i + n9 + 1 = outs9.length) (hp : outs9[i]? = some p) (Zc : List Addr) (hown : ∀ a ∈ own X9 s09, a ∈ Zc) (hit : it9 ∈ Zc) (he : e9 ∈ Zc) (V : Aj (dz [] Zc) s'9.heap p v9) (P : Hp X9 none Zc [] s'9) (N : Nx [lo9, it9, e9] [] s09 s'9)
  (hk : ∀ Z L s'', Hp X9 none Z L s'' → (∀ b ∈ [lo9, it9, e9], ∀ o, s'9.heap.get? b = some o → s''.heap.get? b = some o) → kap (.send .none) s'')
def FD (X : Cx) (outs : List PV) (lo it e : Addr) : Protocol := QO X outs lo it e
def KL (X : Cx) (lo it e : Addr) : Nat → Shared → Shared → Prop := fun n s0 s1 => n = 0 ∧ ∃ Zc, (∀ a ∈ own X s0, a ∈ Zc) ∧ Hp X none Zc [] s1 ∧ Nx [lo, it, e] [] s0 s1
theorem B9.nx0 (e : B9 env nm [] [] s s') (hc : ∀ x, env.cells.lookup x = none) : Nx [env.locals] [] s s' :=
 ⟨fun b o n q => (e.heap b o q (fun h => nomatch h) (fun r => n (by simp [r])) fun x _ r => by rw [hc x] at r; cases r).1, fun g y _ q => e.gens g y q⟩
theorem BF.nx0 (e : BF [] [] s s') : Nx [] [] s s' := ⟨fun b o _ q => (e.heap b o q fun h => nomatch h).1, fun g y _ q => e.gens g y q⟩
theorem Hi : ∀ {names : List (Str × NameKind)} {n : Nat}, (∀ x ∈ names, x.2 ≠ .free ∧ x.2 ≠ .cell) → cellsFrom n names [] = []
 | [], _, _ => rfl
 | (y, k) :: r, n, h => by
  have hk := h _ (.head _)
  cases k with
  | cell => exact absurd rfl hk.2
  | _ => exact Hi (names := r) fun x hx => h x (.tail _ hx)
inductive OY (X9 : Cx) (H9 : Option Value) (d9 : Nat × Nat) (tg9 : PySem.Expr → Prop) (Z9 : List Addr) (L9 : Ai) (s9 : Shared) (Q9 : List PV → (Ai → Prop) → Ai → Prop) (v9 : Value) (s'9 : Shared) : Prop
 | mk (ps : List PV) (Ok : Ai → Prop) (L' : Ai) (I : Addr) (wr : List Addr) (gn : List Nat) (St : Nat → List Addr → List Addr → Shared → Prop) (q : Q9 ps Ok L') (hv : v9 = .ref I) (ht : s'9.TypeIs (.ref I) "generator") (hI : I ∈ wr) (T : DB X9 H9 d9 tg9 I gn ps Ok St) (st : St 0 wr (dz L' (wr ++ Z9)) s'9) (P : Hp X9 H9 (wr ++ Z9) L' s'9) (e : BF L9 L' s9 s'9) (f : ∀ a ∈ wr, s9.heap.get? a = none) (g : ∀ g ∈ gn, s9.gens[g]? = none)
def Ih (X : Cx) (A : Around) (d : Nat × Nat) (tg : PySem.Expr → Prop) (f : PV) (ps : List PV) (L : Ai) (Q : List PV → (Ai → Prop) → Ai → Prop) : Prop :=
 ∀ Z s E fv vs, Hp X A.handled Z L s → Aj (dz L Z) s.heap f fv → Ae (dz L Z) s.heap ps vs → wpAny X.M A (call fv vs []) (OY X A.handled d tg Z L s Q) E s
theorem Ih.toI {f : PV} {Q : List PV → (Ai → Prop) → Ai → Prop} (h : Ih X A (dd A) tg f ps L Q) : Fi X A tg f ps L Q := fun Z s E fv vs P Vf Vs =>
 Ap (h Z s E fv vs P Vf Vs) fun v s' ⟨ps, Ok, L', I, wr, gn, St, q, hv, _, _, T, st, P', e, f, g⟩ => by
  subst hv
  exact ⟨ps, Ok, L', q, fun A' E R hA hd hc => T.self A' 0 wr _ s' E R st (hc I wr gn St s' T st P' e f g)⟩
theorem LO {sl : Array (Option Value)} {Q : List PV → (Ai → Prop) → Ai → Prop}
  (hH : A.handled = none) (ho : X.h₀.get? fa = some ⟨oc, od, .func fd, sl⟩) (hcd : X.h₀.CodeRec fd.code fd.qualname) (hroom : A.depth < recursionLimit) (hsc : Eg fd.scope) (hbind : AM X fd ps [] bs) (bn : List Str) (hb0 : bs.map (·.1) = bn) (hbn : Dc (bn.map Str.code) = true)
  (hbk : ∀ x ∈ bn, (x, NameKind.local) ∈ fd.scope.names) (I : Eu X bs fd.scope.names m₀) (hnf : ∀ x ∈ fd.scope.names, x.2 ≠ .free ∧ x.2 ≠ .cell)
  (h : ∀ env : Env, A8 env fd.scope.names → (∀ x, env.cells.lookup x = none) → env.scope = fd.scope → ∀ a g, ∃ St, DB X none d tg a [g] outs (fun _ => True) St ∧
   ∀ Z L s2, Fm X none Z env fd.scope.names m₀ L s2 → s2.heap.IsGen a g → s2.gens[g]? = some (.fresh (.func body env)) → a ≠ env.locals → X.h₀.get? a = none → St 0 [a, env.locals] (dz L Z) s2)
  (hbody : fd.body = .stmts body) (hclo : fd.closure = []) (hg : fd.globals = mainGlobals) (hb : fd.builtins = builtinsNs) (hco : fd.scope.isCoroutine = false) (hgen : fd.scope.isGenerator = true) (hQ : Q outs (fun _ => True) L) :
  Ih X A d tg (.val (.ref fa)) ps L Q := fun Z s E fv vs P Vf Vs => by
 apply AI Vf
 subst hb0
 have hbn : (bs.map (·.1)).Nodup := (List.pairwise_map.mp (Ce hbn)).imp fun hne e => hne (by rw [e])
 refine Ar (fun binds hB KB => ?_) <| hbind _ Z L s vs [] P Vs .nil
 refine wpAny_call (codeAny_call_generator hroom (P.keep _ _ ho) rfl hco hgen hbody (hcd.keeps P.keep) (hB _ _ _ _ ?_))
 rw [hclo]
 refine wpAny_newFunctionEnv_cells hsc.kind (fun x hx => ?_) fun env he s₁ x => ?_
 ·have hx' : x.1 ∈ bs.map (·.1) := by rw [← KB.names]; exact mem_map_of_mem hx
  exact .inl (Au hsc.nodup (hbk _ hx'))
 refine B8 (fun h₁ tk hs₁ hk₁ => ?_) <| x.done
 have k1 : Keeps s s₁ := ⟨h₁, tk, hs₁, hk₁⟩
 have hL : env.locals = s.heap.objs.size := by rw [he]; rfl
 have hkd : ∀ y k, (y, k) ∈ fd.scope.names → env.kindOf y = some k := fun y k hm => by rw [he]; exact Au hsc.nodup hm
 have hcells : env.cells = [] := by rw [he]; exact Hi hnf
 have hnc : ∀ y, env.cells.lookup y = none := fun y => by rw [hcells]; rfl
 have ok : A8 env fd.scope.names := by
  refine ⟨by rw [he]; exact hsc.kind, by rw [he]; exact hg, by rw [he]; exact hb, fun y k hm => ⟨.inl (hkd y k hm), hsc.plain y k hm⟩, fun y k hm hk => ?_, hsc.nodup, fun y z c e => (by rw [hnc] at e; cases e)⟩
  rcases hk with rfl | rfl
  ·exact absurd rfl (hnf _ hm).2
  ·exact absurd rfl (hnf _ hm).1
 refine CQ (fun olo es ep elo rlo => ?_) <| x.toInCall.ns
 have nolim := (X.nolimit.keeps P.keep).keeps hk₁ |> fun q => (by rw [hs₁]; exact q : s₁.heap.NoLimit)
 have hlo : env.locals < s₁.heap.objs.size := lt_size elo
 have hsz : s.heap.objs.size ≤ s₁.heap.objs.size := le_of_lt (hL ▸ hlo)
 generalize hgo : ({ cls := .type "generator", data := .fields #[.int s₁.gens.size 0, .str fd.name s₁.toks, .str fd.qualname (s₁.toks + 1)] } : Obj) = og
 have hpa : (s₁.heap.push og).get? s₁.heap.objs.size = some og := get?_push_size _ (by rw [← hgo]; rfl)
 have hpl : (s₁.heap.push og).get? env.locals = some olo := get?_push_of_some _ elo
 have hk2 : ∀ b o, s.heap.get? b = some o → (s₁.heap.push og).get? b = some o := fun b o e => get?_push_of_some _ (by rw [hs₁]; exact hk₁ b o e)
 have k2 : Keeps s { s₁ with heap := s₁.heap.push og, toks := s₁.toks + 1 + 1 } := ⟨_, _, by rw [hs₁], hk2⟩
 obtain ⟨P2, kp2⟩ := P.grow (Z' := [s₁.heap.objs.size, env.locals]) k2 fun b hb => by
  revert b hb; refine Ev ?_ ?_
  ·exact ⟨hsz, _, hpa⟩
  ·exact ⟨le_of_eq hL.symm, _, hpl⟩
 have P3 : Hp X A.handled ([s₁.heap.objs.size, env.locals] ++ Z) L { s₁ with gens := s₁.gens.push (.fresh (.func body env)), heap := s₁.heap.push og, toks := s₁.toks + 1 + 1 } :=
  ⟨P2.keep, P2.os, P2.bare.push rfl, P2.led, P2.nodup, P2.fresh, P2.apart, P2.zone, P2.held⟩
 have F : Fm X A.handled ([s₁.heap.objs.size, env.locals] ++ Z) env fd.scope.names m₀ L { s₁ with gens := s₁.gens.push (.fresh (.func body env)), heap := s₁.heap.push og, toks := s₁.toks + 1 + 1 } := by
  refine ⟨P3, ok, fun y k p hm => ?_, ⟨_, olo, es, ep, hpl, rlo⟩, by simp, fun y c e => (by rw [hnc] at e; cases e)⟩
  rcases I.inv y k p hm with ⟨hb, hk⟩ | ⟨rfl, hgl⟩
  ·refine Ar (fun v hv V => ?_) <| KB.mem hb
   have ndb : (binds.map (·.1)).Nodup := by rw [KB.names]; exact hbn
   have hm' := (of_mem_zip hm).1
   rcases hk with rfl | rfl
   ·exact ⟨_, v, x.toInCall.ns.push _, DS ndb hv (hkd _ _ hm'), V.kp kp2⟩
   ·exact absurd rfl (hnf _ hm').2
  ·exact hgl
 have hig : (s₁.heap.push og).IsGen s₁.heap.objs.size s₁.gens.size := ⟨og, _, _, hpa, by rw [← hgo], by rw [← hgo], by rw [← hgo]⟩
 refine Ar (fun St T hst => ?_) <| h env ok hnc (by rw [he]; rfl) s₁.heap.objs.size s₁.gens.size
 have hgz : s₁.gens = s.gens := by rw [hs₁]
 refine ⟨nolim, outs, fun _ => True, L, s₁.heap.objs.size, [s₁.heap.objs.size, env.locals], [s₁.gens.size], St, hQ, rfl, ⟨_, hpa, by rw [← hgo]⟩, .head _, hH ▸ T, hst _ L _ (hH ▸ F) hig (by simp) (ne_of_gt hlo) (P3.fresh _ (by simp [dz])), P3, ?_, fun b hb => ?_, fun g hg => ?_⟩
 ·refine ⟨fun b o e n => ⟨hk2 b o e, n⟩, fun g y e => ?_, fun b o e => ⟨o, hk2 b o e⟩⟩
  show (s₁.gens.push _)[g]? = some y
  rw [hgz]
  have hlt : g < s.gens.size := by
   rcases lt_or_ge g s.gens.size with q | q
   ·exact q
   ·rw [Array.getElem?_eq_none q] at e; cases e
  rw [Array.getElem?_push_lt hlt, ← e, Array.getElem?_eq_getElem hlt]
 ·revert b hb; refine Ev ?_ ?_
  ·exact Ac _ hsz
  ·exact Ac _ (le_of_eq hL.symm)
 ·simp at hg; subst hg; rw [hgz]; simp
def PV.free : PV → Bool
 | .none | .bool _ | .int _ | .str _ | .val _ | .ref _ => true
 | _ => false
theorem Aj.free (hf : p.free = true) (x : Aj D h p v) : Aj D' h' p v := by
 cases p <;> first | exact x | exact Bool.noConfusion hf
theorem Fm.own (F : Fm X none Z env nm m L s) (hm : ∀ p, some p ∈ m → p.free = true) (hk : ∀ x ∈ nm, x.2 ≠ .free ∧ x.2 ≠ .cell) (hc : ∀ x, env.cells.lookup x = none) : Fm X none (own X s) env nm m [] s := by
 refine ⟨HM F.hp, F.ok, fun x k p hmz => ?_, F.nsx, Jq F.hp (mem_append_right _ F.lz), fun x c e => (by rw [hc x] at e; cases e)⟩
 have N := F.vals x k p hmz
 have hx := hk _ (of_mem_zip hmz).1
 have hp := hm p (of_mem_zip hmz).2
 cases k with
 | «local» => refine Bv (fun mv v a b V => ?_) <| N; exact ⟨mv, v, a, b, V.free hp⟩
 | cell => exact absurd rfl hx.2
 | free => exact absurd rfl hx.1
 | _ => exact N
section
variable {lo : Addr} {code : Code}
abbrev Mb (X : Cx) (lo it e : Addr) : GenEnd := fun n s₀ r s₁ => r = .ok (.ret .none) ∧ KL X lo it e n s₀ s₁
inductive NS (X9 : Cx) (d9 : Nat × Nat) (a9 lo9 : Addr) (outs9 : List PV) (code : Code) (Fr9 : Shared → Prop) (g9 : Nat) (i9 : Nat) (pv9 : List Addr) (s9 : Shared) : Prop
 | fresh (hi : i9 = 0) (hp : pv9 = [a9, lo9]) (h1 : s9.gens[g9]? = some (.fresh code)) (h2 : ∀ Z L s'', Hp X9 none Z L s'' → (∀ o, s9.heap.get? lo9 = some o → s''.heap.get? lo9 = some o) → Fr9 s'')
 | susp (it e : Addr) (gs : GenState) (h0 : 0 < i9) (ha : a9 ∉ [lo9, it, e]) (hp : pv9 = [a9, lo9, it, e]) (h1 : s9.gens[g9]? = some gs) (h2 : ∃ o, s9.heap.get? it = some o) (h3 : ∃ o, s9.heap.get? e = some o)
   (h4 : ∀ Z L s'', Hp X9 none Z L s'' → (∀ b ∈ [lo9, it, e], ∀ o, s9.heap.get? b = some o → s''.heap.get? b = some o) → gs.Goes X9.M (Lg (d9.1, d9.2 + 1)) (Mb X9 lo9 it e) (FD X9 outs9 lo9 it e) (outs9.length - i9) (.send .none) s'')
def JJ (X : Cx) (d : Nat × Nat) (a lo : Addr) (g : Nat) (outs : List PV) (code : Code) (Fr : Shared → Prop) (i : Nat) (pv : List Addr) (s : Shared) : Prop :=
 s.heap.IsGen a g ∧ (∃ o, s.heap.get? lo = some o) ∧ NS X d a lo outs code Fr g i pv s
theorem DZ {y : GenState} : Nx [] [g] s (s.setGen g y) := ⟨fun _ _ _ e => e, fun g' x n e => by
 show (s.gens.setIfInBounds g y)[g']? = some x
 rw [Array.getElem?_setIfInBounds_ne (fun q => n (by simp [q]))]; exact e⟩
theorem Hp.after {pvs : List Addr} {gns : List Nat} (P : Hp X none Z L s) (P1 : Hp X none Zc [] s₁) (N : Nx pvs gns s s₁) (hw : ∀ b ∈ pvs, b ∈ Z ∨ s.heap.get? b = none) (hsub : ∀ b, b ∈ dz L Z → b ∈ Zc) (hZn : ∀ b ∈ Zn, b ∈ Zc ∧ s.heap.get? b = none) :
  Hp X none (Zn ++ Z) L s₁ := by
 have sub : ∀ b, b ∈ dz L (Zn ++ Z) → b ∈ Zc := fun b hb => by
  rcases List.mem_append.mp hb with q | q
  ·exact hsub b (mem_append_left _ q)
  ·rcases List.mem_append.mp q with q | q
   ·exact (hZn b q).1
   ·exact hsub b (mem_append_right _ q)
 have kp : Kp (dz L Z) (dz L (Zn ++ Z)) s.heap s₁.heap := fun b o e n => by
  have nz : b ∉ Zn := fun q => by rw [(hZn b q).2] at e; cases e
  refine ⟨N.1 b o (fun q => (hw b q).elim (fun r => n (mem_append_right _ r)) fun r => by rw [r] at e; cases e) e, fun hm => ?_⟩
  rcases List.mem_append.mp hm with q | q
  ·exact n (mem_append_left _ q)
  ·rcases List.mem_append.mp q with q | q
   ·exact nz q
   ·exact n (mem_append_right _ q)
 refine ⟨P1.keep, P1.os, P1.bare, fun x hx => BP.kp kp (fun ob e => N.1 _ _ (fun q => ?_) e) (P.led x hx), P.nodup, fun b hb => P1.fresh b (sub b hb), fun b hb hm => ?_, fun b hb => P1.zone b (sub b (mem_append_right _ hb)), trivial⟩
 ·rcases hw _ q with r | r
  ·exact P.apart _ (AX hx) r
  ·refine Ao (fun o e => ?_) <| P.led_live (AX hx); rw [r] at e; cases e
 ·rcases List.mem_append.mp hm with r | r
  ·refine Ao (fun o e => ?_) <| P.led_live hb; rw [(hZn _ r).2] at e; cases e
  ·exact P.apart b hb r
theorem Hs {e : Addr} {gs gs' : GenState} (P : Hp X none Z L s) (hig : s.heap.IsGen a g) (hgs : s.gens[g]? = some gs) (ha : a ∉ [lo, it, e]) (hb : gs'.bare = true)
  (hY : FD X outs lo it e (outs.length - i - 1) (s.setGen g .running) v s₁ (fun r' s'' => match outs.length - i with | 0 => False | m + 1 => gs'.Goes X.M (Lg (d.1, d.2 + 1)) (Mb X lo it e) (FD X outs lo it e) m r' s''))
  (hp : outs[i]? = some p) (hZn : ∀ b ∈ Zn, s.heap.get? b = none ∧ b ∈ [it, e]) (hw : ∀ b ∈ [lo, it, e], b ∈ Z ∨ b ∈ Zn) (hpv : ∀ b ∈ [lo, it, e], b ∈ pv ∨ s.heap.get? b = none) :
  Aj (dz L (Zn ++ Z)) (s₁.setGen g gs').heap p v ∧ Hp X none (Zn ++ Z) L (s₁.setGen g gs') ∧ JJ X d a lo g outs code Fr (i + 1) [a, lo, it, e] (s₁.setGen g gs') ∧ Nx pv [g] s (s₁.setGen g gs') ∧ s₁.heap.IsGen a g := by
 have hlt : i < outs.length := (List.getElem?_eq_some_iff.mp hp).1
 obtain ⟨m, hm⟩ : ∃ m, outs.length - i = m + 1 := ⟨outs.length - i - 1, by exact GH 0x488024490910010421 rt (sub_add_cancel (AB 0x504804a1401412808422 rt hlt (sub_add_cancel (Aa 0x94012808421 rt hlt))))⟩
 rw [hm] at hY
 obtain ⟨i', p', hi', hp', Zc, hown, hit, he, V, P1, N1, hk⟩ := hY
 have ei : i' = i := by exact q60 0xd508244802458041635001058122d4000a012240814024 rt hm hi' (sub_add_cancel (Aa 0x94012808421 rt hlt)) (sub_add_cancel (B7 0x24580240250a00a0122c0a1052808423 rt hlt hm (sub_add_cancel (Aa 0x94012808421 rt hlt))))
 subst ei
 rw [hp] at hp'
 cases hp'
 have hsub : ∀ b, b ∈ dz L Z → b ∈ Zc := fun b hb => hown b (Jq (P.setGen (g := g) (y := .running) rfl) hb)
 have N0 : Nx [lo, it, e] [g] s s₁ := ((DZ (y := .running)).sub (fun _ h => nomatch h) fun _ h => h).trans (N1.sub (fun _ h => h) fun _ h => nomatch h)
 have hZn' : ∀ b ∈ Zn, b ∈ Zc ∧ s.heap.get? b = none := fun b hb => ⟨by
  have := (hZn b hb).2
  simp at this
  rcases this with rfl | rfl
  ·exact hit
  ·exact he, (hZn b hb).1⟩
 have P2 := P.after P1 N0 (fun b hb => (hw b hb).imp id fun q => (hZn b q).1) hsub hZn'
 have P3 := P2.setGen (g := g) hb
 have hrun : s₁.gens[g]? = some .running := N1.2 g _ (fun h => nomatch h) (setGen_self hgs)
 have hig1 : s₁.heap.IsGen a g := by
  refine CQ (fun o nm qn ho r => ?_) <| hig
  exact ⟨o, nm, qn, N1.1 a o ha ho, r⟩
 refine ⟨V.kp (AP fun b hb => ?_), P3, ⟨hig1, ?_, .susp it e gs' (succ_pos _) ha rfl (setGen_self hrun) (P1.zone it hit) (P1.zone e he) fun Z L s'' P'' hq => ?_⟩, ?_, hig1⟩
 ·show b ∈ dom [] ++ Zc
  rcases List.mem_append.mp hb with q | q
  ·exact hsub b (mem_append_left _ q)
  ·rcases List.mem_append.mp q with q | q
   ·exact (hZn' b q).1
   ·exact hsub b (mem_append_right _ q)
 ·rcases hw lo (by simp) with q | q
  ·exact P1.zone lo (hsub lo (mem_append_right _ q))
  ·exact P1.zone lo (hZn' lo q).1
 ·have := hk Z L s'' P'' hq
  rw [show outs.length - (i' + 1) = m by exact q50 0xc5882460024480505048802c02828244a00010423 rt hi' (sub_add_cancel (Aa 0x484880012808421 rt hlt)) (sub_add_cancel (Aq 1245541695520 rt))]
  exact this
 ·refine ⟨fun b o n q => N0.1 b o (fun r => (hpv b r).elim n fun z => by rw [z] at q; cases q) q, fun g' x n q => ?_⟩
  exact (DZ (g := g) (s := s₁) (y := gs')).2 g' x n (N0.2 g' x n q)
theorem JW {e : Addr} (P : Hp X none Z L s) (hP : KL X lo it e n (s.setGen g .running) s₁) (hk : ∀ b o, s₁.heap.get? b = some o → h'.get? b = some o)
  (hw : ∀ b ∈ [lo, it, e], b ∈ Z ∨ s.heap.get? b = none) (hpv : ∀ b ∈ [lo, it, e], b ∈ pv ∨ s.heap.get? b = none) :
  Hp X none Z L { s₁.setGen g .finished with heap := h' } ∧ Nx pv [g] s { s₁.setGen g .finished with heap := h' } := by
 obtain ⟨_, Zc, hown, P1, N1⟩ := hP
 have hsub : ∀ b, b ∈ dz L Z → b ∈ Zc := fun b hb => hown b (Jq (P.setGen (g := g) (y := .running) rfl) hb)
 have N0 : Nx [lo, it, e] [g] s s₁ := ((DZ (y := .running)).sub (fun _ h => nomatch h) fun _ h => h).trans (N1.sub (fun _ h => h) fun _ h => nomatch h)
 have P2 : Hp X none Z L s₁ := P.after (Zn := []) P1 N0 hw hsub fun b hb => nomatch hb
 have P3 := (P2.setGen (g := g) (y := .finished) rfl).keeps (s' := { s₁.setGen g .finished with heap := h' }) ⟨h', _, rfl, hk⟩
 refine ⟨P3, fun b o n q => hk b o (N0.1 b o (fun r => (hpv b r).elim n fun z => by rw [z] at q; cases q) q), fun g' x n q => ?_⟩
 exact (DZ (g := g) (s := s₁) (y := .finished)).2 g' x n (N0.2 g' x n q)
theorem Mg (hdl : d.1 < recursionLimit) (hal : a ≠ lo) (ha0 : X.h₀.get? a = none)
  (hrun : ∀ s, Hp X none (own X s) [] s → Fr s → Seg X.M (Lg (d.1, d.2 + 1)) (Mb X lo s.heap.objs.size (s.heap.objs.size + 1)) (FD X outs lo s.heap.objs.size (s.heap.objs.size + 1)) outs.length s code (X.M.den code) [] s) :
  DB X none d Ay a [g] outs (fun _ => True) (fun i pv D s => JJ X d a lo g outs code Fr i pv s) where
 mono := fun i pv D D' s s' x kp hk hg => by
  refine CP (fun x1 x2 st => ?_) x
  have go : a ∈ pv → lo ∈ pv → NS X d a lo outs code Fr g i pv s' → JJ X d a lo g outs code Fr i pv s' := fun h1 h2 y =>
   ⟨CQ (fun o nm qn ho r => ⟨o, nm, qn, hk a h1 o ho, r⟩) x1, Ao (fun o e => ⟨o, hk lo h2 o e⟩) x2, y⟩
  cases st with
  | fresh hi hp h1 h2 =>
   subst hp
   exact go (.head _) (.tail _ (.head _)) (.fresh hi rfl (hg _ _ h1) fun Z L s'' P hq => h2 Z L s'' P fun o q => hq o (hk lo (.tail _ (.head _)) o q))
  | susp it e gs h0 han hp h1 h2 h3 h4 =>
   subst hp
   exact go (.head _) (.tail _ (.head _)) (.susp it e gs h0 han rfl (hg _ _ h1) (Ao (fun o q => ⟨o, hk it (.tail _ (.tail _ (.head _))) o q⟩) h2) (Ao (fun o q => ⟨o, hk e (.tail _ (.tail _ (.tail _ (.head _)))) o q⟩) h3) fun Z L s'' P hq => h4 Z L s'' P fun b hb o q => hq b hb o (hk b (.tail _ hb) o q))
 item := fun A i p pv Z L s E E' target R hA hd ht hp ok P hw x h => by
  refine CP (fun hig x2 st => ?_) x
  refine Ao (fun olo elo => ?_) x2
  have nolim : s.heap.NoLimit := X.nolimit.keeps P.keep
  have hroom : A.depth < recursionLimit := lt_of_le_of_lt hd.1 hdl
  have hAB := HA (A := A.in1) hA (CB hd)
  have fin : ∀ (it e : Addr) (Zn : List Addr) (v : Value) (s₁ : Shared) (gs' : GenState), s₁.heap.IsGen a g → Aj (dz L (Zn ++ Z)) (s₁.setGen g gs').heap p v → Hp X none (Zn ++ Z) L (s₁.setGen g gs') → JJ X d a lo g outs code Fr (i + 1) [a, lo, it, e] (s₁.setGen g gs') →
    Nx pv [g] s (s₁.setGen g gs') → (∀ b ∈ [a, lo, it, e], b ∈ pv ∨ b ∈ Zn) → (∀ b ∈ Zn, s.heap.get? b = none) → ∃ v', some v = some v' ∧ wpAny X.M A (letOwnedTupleGo target (.ref a) v') (fun _ s2 => R v' s2) E' (s₁.setGen g gs') := fun it e Zn v s₁ gs' hi V P' S' N hz hf => by
   refine ⟨v, rfl, ?_⟩
   have hR := h v _ Zn _ V P' S' hz hf N
   refine Nd (fun o nm qn ho hc hdt _ => ?_) <| hi
   cases target with
   | Name x pos => exact wpAny_pure hR
   | Tuple elts x1 pos => exact DW (s := s₁.setGen g gs') ho hc hdt (by decide) hR
   | _ => exact ht.elim
  rcases st with ⟨rfl, rfl, h1, h2⟩ | ⟨it, e, gs, h0, han, rfl, h1, x3, x4, h4⟩
  ·have hfr := h2 Z L (s.setGen g .running) (P.setGen rfl) fun o q => q
   have hla : a < s.heap.objs.size := by refine CQ (fun o _ _ q _ => ?_) <| hig; exact lt_size q
   have hll : lo < s.heap.objs.size := lt_size elo
   refine CX (n := outs.length) (P := KL X lo s.heap.objs.size (s.heap.objs.size + 1)) (Y := FD X outs lo s.heap.objs.size (s.heap.objs.size + 1)) hA hAB nolim hroom hig h1 ⟨rfl, hrun (s.setGen g .running) (HM (P.setGen rfl)) hfr⟩ (fun v s₁ gs' hb hY => ?_) fun s₁ hP => ?_
   ·obtain ⟨V, P', S', N, hi⟩ := Hs (Zn := [s.heap.objs.size, s.heap.objs.size + 1]) (i := 0) (pv := [a, lo]) (Fr := Fr) (code := code) (d := d) P hig h1 (RE hal (ne_of_lt hla) (ne_of_lt (lt_succ_of_lt hla))) hb hY hp (Ev ⟨Ac _ (le_refl _), .head _⟩ ⟨Ac _ (le_succ _), .tail _ (.head _)⟩) (K6 (.inl (hw _ (.tail _ (.head _)))) (.inr (.head _)) (.inr (.tail _ (.head _)))) (K6 (.inl (.tail _ (.head _))) (.inr (Ac _ (le_refl _))) (.inr (Ac _ (le_succ _))))
    exact fin _ _ _ v s₁ gs' hi V P' S' N (Pe (.inl (.head _)) (.inl (.tail _ (.head _))) (.inr (.head _)) (.inr (.tail _ (.head _)))) (Ev (Ac _ (le_refl _)) (Ac _ (le_succ _)))
   ·have := hP.1
    have hlt := (List.getElem?_eq_some_iff.mp hp).1
    lia
  ·have hgo := h4 Z L (s.setGen g .running) (P.setGen rfl) fun b hb o q => q
   refine CX (n := outs.length - i) (P := KL X lo it e) (Y := FD X outs lo it e) hA hAB nolim hroom hig h1 hgo (fun v s₁ gs' hb hY => ?_) fun s₁ hP => ?_
   ·refine QJ (fun V P' S' N hi => ?_) <| Hs (Zn := []) (pv := [a, lo, it, e]) (Fr := Fr) (code := code) (d := d) P hig h1 han hb hY hp nofun (fun b hb => .inl (hw b (.tail _ hb))) (fun b hb => .inl (.tail _ hb))
    exact fin it e [] v s₁ gs' hi V P' S' N (fun b hb => .inl hb) nofun
   ·have := hP.1
    have hlt := (List.getElem?_eq_some_iff.mp hp).1
    lia
 done := fun A pv Z L s E R hA hd ok P hw x h => by
  refine CP (fun hig x2 st => ?_) x
  refine Ao (fun olo elo => ?_) x2
  have nolim : s.heap.NoLimit := X.nolimit.keeps P.keep
  have hroom : A.depth < recursionLimit := lt_of_le_of_lt hd.1 hdl
  have hAB := HA (A := A.in1) hA (CB hd)
  rcases st with ⟨h0, rfl, h1, h2⟩ | ⟨it, e, gs, h0, han, rfl, h1, x3, x4, h4⟩
  ·have hfr := h2 Z L (s.setGen g .running) (P.setGen rfl) fun o q => q
   refine CX (n := outs.length) (P := KL X lo s.heap.objs.size (s.heap.objs.size + 1)) (Y := FD X outs lo s.heap.objs.size (s.heap.objs.size + 1)) hA hAB nolim hroom hig h1 ⟨rfl, hrun (s.setGen g .running) (HM (P.setGen rfl)) hfr⟩ (fun v s₁ gs' hb hY => ?_) fun s₁ hP h' hk => ?_
   ·rw [h0] at hY
    obtain ⟨_, _, _, _, Zc, _, _, _, _, P1, _, hk⟩ := hY
    exact (hk Zc [] s₁ P1 fun b hb o q => q).elim
   ·obtain ⟨P', N'⟩ := JW (pv := [a, lo]) P hP hk (K6 (.inl (hw _ (.tail _ (.head _)))) (.inr (Ac _ (le_refl _))) (.inr (Ac _ (le_succ _)))) (K6 (.inl (.tail _ (.head _))) (.inr (Ac _ (le_refl _))) (.inr (Ac _ (le_succ _))))
    exact h _ P' N'
  ·have hgo := h4 Z L (s.setGen g .running) (P.setGen rfl) fun b hb o q => q
   rw [Nat.sub_self] at hgo
   refine CX (n := 0) (P := KL X lo it e) (Y := FD X outs lo it e) hA hAB nolim hroom hig h1 hgo (fun v s₁ gs' hb hY => ?_) fun s₁ hP h' hk => ?_
   ·obtain ⟨_, _, _, _, Zc, _, _, _, _, P1, _, hk⟩ := hY
    exact (hk Zc [] s₁ P1 fun b hb o q => q).elim
   ·refine Av (fun P' N' => ?_) <| JW (pv := [a, lo, it, e]) P hP hk (fun b hb => .inl (hw b (.tail _ hb))) (fun b hb => .inl (.tail _ hb))
    exact h _ P' N'
 self := fun A i pv D s E R st hR => wpAny_pyIter_gen st.1 hR
end
theorem Fm.storeL {Q : Unit → Shared → Prop} (F : Fm X H Z env nm m L s) (S : Stn nm m x .local p m') (V : Aj (dz L Z) s.heap p v)
  (h : ∀ s', Fm X H Z env nm m' L s' → B9 env nm L L s s' → s'.heap.objs.size = s.heap.objs.size → Q () s') : wpAny X.M A (storeName env x v) Q E s := by
 have hkd : env.kindOf x = some .local := by
  rcases (F.ok.names x .local S.mem).1 with e | ⟨e, _⟩
  ·exact e
  ·cases e
 refine Ao (fun mv hn => ?_) <| F.nsx
 refine wpAny_storeName_local hkd hn (fun h' hn' hs => h _ ?_ ?_ hs.1) (by rw [F.ok.kind]; rfl)
 ·refine Av (fun P kp => ?_) <| F.write (tk := s.toks + 1) F.lz hs (let ⟨o, _, _, e, _⟩ := hn'; ⟨o, e⟩)
  have ck : ∀ y c o, env.cells.lookup y = some c → s.heap.get? c = some o → h'.get? c = some o := fun y c o e ho => (hs.2 c (F.cz y c e).2.1).trans ho
  refine ⟨P, F.ok, fun y ky q hm => ?_, ⟨_, hn'⟩, F.lz, fun y c e => ?_⟩
  ·rcases S.inv F.ok.nodup y ky q hm with ⟨rfl, rfl, rfl⟩ | ⟨hne, hm'⟩
   ·exact ⟨_, v, hn', by simp, V.kp kp⟩
   ·have N := F.vals y ky q hm'
    cases ky with
    | «local» =>
     refine Bv (fun mv' v' hn2 e2 V2 => ?_) <| N
     rw [DY hn2 hn] at e2
     exact ⟨_, v', hn', by rw [if_neg hne]; exact e2, V2.kp kp⟩
    | cell => refine Bv (fun c v' e o₀3 V2 => ?_) <| N; obtain ⟨o, ho, hd⟩ := o₀3; exact ⟨c, v', e, ⟨o, ck y c o e ho, hd⟩, V2.kp kp⟩
    | free => refine Bv (fun c v' e o₀3 V2 => ?_) <| N; obtain ⟨o, ho, hd⟩ := o₀3; exact ⟨c, v', e, ⟨o, ck y c o e ho, hd⟩, V2.kp kp⟩
    | globalImplicit => exact N
    | globalExplicit => exact N.elim
  ·obtain ⟨hz, hne, v', o, ho, hd⟩ := F.cz y c e
   exact ⟨hz, hne, v', o, ck y c o e ho, hd⟩
 ·refine ⟨fun a o e n nl _ => ⟨(hs.2 a nl).trans e, n⟩, fun _ _ e => e, fun a o e => ?_⟩
  by_cases q : a = env.locals
  ·refine CQ (fun o' _ _ e' _ => ?_) <| hn'; exact ⟨o', q ▸ e'⟩
  ·exact ⟨o, (hs.2 a q).trans e⟩
theorem Mc {f : Str} {kx : NameKind} {p1 p2 : Pos} {Q : QV} (F : Fm X A.handled Z env nm m L s)
  (N1 : Lk nm m f kf (.val fv)) (N2 : Lk nm m x kx p) (K : Bw X (.val fv)) (h : ∀ v, Aj (dz L Z) s.heap p v → wpAny X.M A (call fv [v] []) Q E s)
  (hc : eval (.Call (.Name f p1) [.Name x p2] [] pos) env = (do callWith pos (← eval (.Name f p1) env) [] (backTo pos (starEach [.Name x p2] env)) (backToKw pos (keywordEach [] env))))
  (he : starEach [.Name x p2] env = (false, eval (.Name x p2) env) :: starEach [] env)
  (hplain : ((backTo pos (starEach [.Name x p2] env)).any (·.1) || (backToKw pos (keywordEach [] env)).any (·.1.isNone)) = false)
  (hall : (backToKw pos (keywordEach [] env)).all (·.1.isSome) = true) : wpAny X.M A (eval (.Call (.Name f p1) [.Name x p2] [] pos) env) Q E s := by
 rw [hc]
 refine wpAny_bind (wpAny_Name (F.load N1 fun fv' Vf => ?_) (F.ok.names f kf (of_mem_zip N1.mem).1).2.1)
 have := ET Vf
 subst this
 refine callWith_of (P := fun h => ∃ k, (k = Keeper.frame ∨ k = Keeper.machine ∨ k = Keeper.boundFrame) ∧ Looks X.M h (keeperOf fv') k) hplain (fun _ p => p) ?_
 refine evalArgs_kw2 hall ?_ he
 refine wpAny_items_cons (wpAny_Name (F.load N2 fun v V => ?_) (F.ok.names x kx (of_mem_zip N2.mem).1).2.1) he
 refine wpAny_items_nil (kwAll_nil ⟨K _ Z L s fv' F.hp Vf, ?_⟩)
 exact h v V
theorem DB.none {Ok : Ai → Prop} : DB X H d tg I gn ps Ok (fun _ _ _ _ => False) where
 mono := fun _ _ _ _ _ _ h _ _ _ => h
 item := fun A i p pv Z L s E E' target R hA hd ht hp ok P hw st h => st.elim
 done := fun A pv Z L s E R hA hd ok P hw st h => st.elim
 self := fun A i pv D s E R st hR => st.elim
theorem Mf (hA : d.1 < recursionLimit) (hfr : ∀ p, some p ∈ m₀ → p.free = true) (hnk : ∀ x ∈ nm, x.2 ≠ .free ∧ x.2 ≠ .cell)
  (hnc : ∀ x, env.cells.lookup x = none) (hrun : ∀ s, Hp X none (own X s) [] s → Fm X none (own X s) env nm m₀ [] s →
   Seg X.M (Lg (d.1, d.2 + 1)) (Mb X env.locals s.heap.objs.size (s.heap.objs.size + 1)) (FD X outs env.locals s.heap.objs.size (s.heap.objs.size + 1)) outs.length s (.func body env) (X.M.den (.func body env)) [] s) :
  ∃ St, DB X none d Ay a [g] outs (fun _ => True) St ∧ ∀ Z L s2, Fm X none Z env nm m₀ L s2 → s2.heap.IsGen a g → s2.gens[g]? = some (.fresh (.func body env)) → a ≠ env.locals → X.h₀.get? a = none → St 0 [a, env.locals] (dz L Z) s2 := by
 by_cases hok : a ≠ env.locals ∧ X.h₀.get? a = none
 ·refine ⟨_, Mg (lo := env.locals) (code := .func body env) (Fr := fun s => Fm X none (own X s) env nm m₀ [] s) hA hok.1 hok.2 hrun, ?_⟩
  intro Z L s2 F2 hig hgs ha h0
  refine DD (fun mv o es ep ho r => ?_) <| F2.nsx
  exact ⟨hig, ⟨o, ho⟩, .fresh rfl rfl hgs fun Z L s2 P hl => (F2.own hfr hnk hnc).hop P hl hnc⟩
 ·exact ⟨_, DB.none, fun Z L s2 F hig hgs ha h0 => absurd ⟨ha, h0⟩ hok⟩
structure GI (X : Cx) (env : Env) (nm : Nm) (it e : Addr) (St : Shared → Prop) (m : AU) (s0 s : Shared) : Prop where
 ex : ∃ Zc, Fm X none Zc env nm m [] s ∧ (∀ a ∈ own X s0, a ∈ Zc) ∧ it ∈ Zc ∧ e ∈ Zc
 nx : Nx [env.locals, it, e] [] s0 s
 st : St s
 stm : ∀ s s', St s → (∀ b ∈ [it, e], ∀ o, s.heap.get? b = some o → s'.heap.get? b = some o) → St s'
abbrev Et (x : List Nat) (t : Tok) (it e : Addr) (i : Nat) : Shared → Prop := fun s => (∃ old, IsEnum s.heap e it (i : Nat) old) ∧ s.heap.IsStrIter it (strIterType ⟨x.toArray⟩) ⟨x.toArray⟩ t i
theorem Fs {x : List Nat} {e : Addr} (s s' : Shared) (h : Et x t it e i s) (hk : ∀ b ∈ [it, e], ∀ o, s.heap.get? b = some o → s'.heap.get? b = some o) : Et x t it e i s' := by
 refine Av (fun o₀0 o₀1 => ?_) <| h; obtain ⟨old, he⟩ := o₀0; obtain ⟨o, ho, r⟩ := o₀1
 exact ⟨⟨old, hk e (by simp) _ he⟩, ⟨o, hk it (by simp) o ho, r⟩⟩
section
variable {St : Shared → Prop} {e : Addr}
theorem GI.hop (G : GI X env nm it e St m s0 s) (P : Hp X none Z L s') (hk : ∀ b ∈ [env.locals, it, e], ∀ o, s.heap.get? b = some o → s'.heap.get? b = some o)
  (hm : ∀ p, some p ∈ m → p.free = true) (hn : ∀ x ∈ nm, x.2 ≠ .free ∧ x.2 ≠ .cell) (hc : ∀ x, env.cells.lookup x = none) : GI X env nm it e St m s' s' := by
 refine K1 (fun Zc F _ h1 h2 => ?_) <| G.ex
 have fr : ∀ b ∈ Zc, (∀ o, s.heap.get? b = some o → s'.heap.get? b = some o) → b ∈ own X s' := fun b hb hs => by
  refine Ao (fun o q => ?_) <| F.hp.zone b hb
  exact CU.mpr ⟨F.hp.fresh b (mem_append_right _ hb), o, hs o q⟩
 exact ⟨⟨own X s', (F.own hm hn hc).hop P (hk _ (by simp)) hc, fun a h => h, fr it h1 (hk _ (by simp)), fr e h2 (hk _ (by simp))⟩, ⟨fun _ _ _ q => q, fun _ _ _ q => q⟩,
  G.stm s s' G.st (fun b hb => hk b (.tail _ hb)), G.stm⟩
theorem GI.step (G : GI X env nm it e St m s0 s) (F : Fm X none Zc env nm m' [] s') (h : ∀ a ∈ own X s0, a ∈ Zc) (h1 : it ∈ Zc) (h2 : e ∈ Zc) (N : Nx [env.locals] [] s s') (hl : env.locals ≠ it ∧ env.locals ≠ e) : GI X env nm it e St m' s0 s' := by
 refine ⟨⟨Zc, F, h, h1, h2⟩, G.nx.trans (N.sub (fun b hb => by simp at hb ⊢; exact .inl hb) fun b hb => hb), G.stm s s' G.st fun b hb o q => N.1 b o ?_ q, G.stm⟩
 simp at hb ⊢; rcases hb with rfl | rfl
 ·exact hl.1.symm
 ·exact hl.2.symm
variable {T : Around} {R : GenEnd} {c : Code} {K : Flow → Sem PySem.Fin} {H : Value → Sem PySem.Fin}
theorem NW (hH : (T.over c fs).handled = none) (hl : env.locals ≠ it ∧ env.locals ≠ e) (hc : ∀ x, env.cells.lookup x = none) (G : GI X env nm it e St m s0 s)
  (h : WS X (T.over c fs) env nm m (exec st env) [] (fun m' L' => L' = [] ∧ ∀ s', GI X env nm it e St m' s0 s' → Seg X.M T R Y n s0 c (K .next) fs s') (fun _ _ => False) (fun _ _ => False) (fun _ _ => False)) :
  Seg X.M T R Y n s0 c ((exec st env).wrap K H gd lv) fs s := by
 refine K1 (fun Zc F h0 h1 h2 => ?_) <| G.ex
 refine GL (wst (h Zc s (fun _ _ => False) (hH ▸ F)) fun f s' pf m' L' q F' r e' => ?_)
 cases pf with
 | next =>
  obtain ⟨rfl, q⟩ := q
  rw [r]
  exact q s' (G.step (hH ▸ F') h0 h1 h2 (e'.nx0 hc) hl)
 | brk => exact q.elim
 | cont => exact q.elim
 | ret p => exact q.elim
theorem Mh (hH : (T.over c fs).handled = none) (hl : env.locals ≠ it ∧ env.locals ≠ e) (hc : ∀ x, env.cells.lookup x = none) (G : GI X env nm it e St m s0 s)
  (h : WT X (T.over c fs) env nm m (isTrue test env (eval test env)) [] (fun L' => L' = [] ∧ ∀ s', GI X env nm it e St m s0 s' → Seg X.M T R Y n s0 c ((execs body env).wrap K H gd lv) fs s') fun L' => L' = [] ∧ ∀ s', GI X env nm it e St m s0 s' → Seg X.M T R Y n s0 c ((execs orelse env).wrap K H gd lv) fs s') :
  Seg X.M T R Y n s0 c ((exec (.If test body orelse pos) env).wrap K H gd lv) fs s := by
 refine K1 (fun Zc F h0 h1 h2 => ?_) <| G.ex
 refine OB (wb (h Zc s (fun _ _ => False) (hH ▸ F)) fun b s' L' q P' e' => ?_)
 rcases q with ⟨rfl, rfl, q⟩ | ⟨rfl, rfl, q⟩
 ·exact q s' (G.step (F.ext e' (hH ▸ P')) h0 h1 h2 ((e'.nx0).sub (fun _ h => nomatch h) fun _ h => h) hl)
 ·exact q s' (G.step (F.ext e' (hH ▸ P')) h0 h1 h2 ((e'.nx0).sub (fun _ h => nomatch h) fun _ h => h) hl)
theorem Gq (hH : (T.over c fs).handled = none) (hl : env.locals ≠ it ∧ env.locals ≠ e) (hc : ∀ x, env.cells.lookup x = none) (hn : ∀ x ∈ nm, x.2 ≠ .free ∧ x.2 ≠ .cell) (hm : ∀ p, some p ∈ m → p.free = true)
  (G : GI X env nm it e St m s0 s) {ex : PySem.Expr} {ypos : Pos} (hfs : splitAtGen fs = none) (hgd : gd false = false) (hfg : fs.any Frame.guarded = false) (hco : env.scope.isCoroutine = false) (hi : interactive env = false) (hk : k + n + 1 = outs.length) (hp : outs[k]? = some p)
  (h : WE X (T.over c fs) env nm m (eval ex env) [] fun q L' => L' = [] ∧ q = p)
  (next : ∀ s'', GI X env nm it e St m s'' s'' → Seg X.M T R (FD X outs env.locals it e) n s'' c (K .next) fs s'') :
  Seg X.M T R (FD X outs env.locals it e) (n + 1) s0 c ((exec (.Expr (.Yield (some ex) ypos) pos) env).wrap K H gd lv) fs s := by
 refine K1 (fun Zc F h0 h1 h2 => ?_) <| G.ex
 refine seg_Expr_Yield hfs hgd hfg (Ap (h Zc s _ (hH ▸ F)) fun v s' ⟨q, L', ⟨hq1, hq2⟩, P', V, e'⟩ kap hkap => ?_) hco hi
 subst hq1
 subst hq2
 have G' := G.step (F.ext e' (hH ▸ P')) h0 h1 h2 ((e'.nx0).sub (fun _ h => nomatch h) fun _ h => h) hl
 refine ⟨k, q, hk, hp, Zc, h0, h1, h2, V, hH ▸ P', G'.nx, fun Z L s'' P'' hs => ?_⟩
 exact hkap .none s'' (next s'' (G'.hop P'' hs hm hn hc))
variable {x : List Nat}
theorem O0 {ch : Nat} (hH : (T.over (.forLoop target (.ref e) body orelse env) fs).handled = none) (hl : env.locals ≠ it ∧ env.locals ≠ e) (hc : ∀ x, env.cells.lookup x = none) (hne : e ≠ it)
  (G : GI X env nm it e (Et x t it e i) m s0 s) (hix : x[i]? = some ch) (ht : Bx target)
  (h : WAs X (T.over (.forLoop target (.ref e) body orelse env) fs) env nm m (assign target env) (.tup [.int i, .str [ch]]) [] fun m' L' => L' = [] ∧ ∀ s', GI X env nm it e (Et x t it e (i + 1)) m' s0 s' →
   Seg X.M T R Y n s0 (.forLoop target (.ref e) body orelse env) ((execs body env).wrap (M1 (.forLoop target (.ref e) body orelse env)) (goH env) id id) fs s') :
  Seg X.M T R Y n s0 (.forLoop target (.ref e) body orelse env) (X.M.den (.forLoop target (.ref e) body orelse env)) fs s := by
 refine K1 (fun Zc F h0 h1 h2 => ?_) <| G.ex
 have hw : ∀ b ∈ [e, it], b ∈ Zc := fun b hb => by
  revert b hb; refine Ev ?_ ?_
  ·exact h2
  ·exact h1
 have hp : (BT (Bk x))[i]? = some (.tup [.int i, .str [ch]]) := by simp [BT, Bk, getElem?_zipIdx, hix]
 refine Fx (Ap ((Ei.enum_str (X := X) (d := dd _) (x := x) (t := t) hne).item (T.over (.forLoop target (.ref e) body orelse env) fs) i _ Zc [] s _ (fun _ _ => False) target
  (fun v s4 => wpAny X.M (T.over (.forLoop target (.ref e) body orelse env) fs) (assign target env v) (fun _ s5 => Seg X.M T R Y n s0 (.forLoop target (.ref e) body orelse env) ((execs body env).wrap (M1 (.forLoop target (.ref e) body orelse env)) (goH env) id id) fs s5) (fun _ _ => False) s4)
  hH (AR _) ht hp trivial F.hp hw G.st fun v s4 V4 P4 st4 N4 => ?_) fun r s4 x => Ar (fun v hr hv => by subst hr; exact hv) x)
 have F4 := (F.nxg (Zn := []) N4 hw (fun b hb => nomatch hb) P4 (by simp; exact ⟨hl.2, hl.1⟩) (fun y d e => by rw [hc y] at e; cases e)).1
 have G4 : GI X env nm it e (Et x t it e (i + 1)) m s0 s4 := ⟨⟨Zc, F4, h0, h1, h2⟩, G.nx.trans (N4.sub (fun b hb => by simp at hb ⊢; rcases hb with h | h <;> simp [h]) fun b hb => hb), st4, Fs⟩
 refine wa (h Zc s4 (fun _ _ => False) v (hH ▸ F4) V4) fun _ s5 m5 L5 o F5 e5 => ?_
 refine Av (fun hL5 hq => ?_) o
 subst hL5
 exact hq s5 (G4.step (hH ▸ F5) h0 h1 h2 (e5.nx0 hc) hl)
theorem Js (hH : (T.over (.forLoop target (.ref e) body orelse env) fs).handled = none) (hl : env.locals ≠ it ∧ env.locals ≠ e) (hc : ∀ x, env.cells.lookup x = none) (hne : e ≠ it)
  (G : GI X env nm it e (Et x t it e i) m s0 s) (hi : i = x.length)
  (h : ∀ s', GI X env nm it e (fun _ => True) m s0 s' → Seg X.M T R Y n s0 (.block orelse env) (X.M.den (.block orelse env)) fs s') :
  Seg X.M T R Y n s0 (.forLoop target (.ref e) body orelse env) (X.M.den (.forLoop target (.ref e) body orelse env)) fs s := by
 refine K1 (fun Zc F h0 h1 h2 => ?_) <| G.ex
 have hw : ∀ b ∈ [e, it], b ∈ Zc := fun b hb => by
  revert b hb; refine Ev ?_ ?_
  ·exact h2
  ·exact h1
 refine Fx (Ap ((Ei.enum_str (X := X) (d := dd _) (x := x) (t := t) hne).done (T.over (.forLoop target (.ref e) body orelse env) fs) Zc [] s _ (fun r s4 => r = none ∧ Hp X none Zc [] s4 ∧ Nx [e, it] [] s s4)
  hH (AR _) trivial F.hp hw (by rw [Cd, show (Bk x).length = x.length from by simp [Bk], ← hi]; exact G.st) fun s4 P4 N4 => ⟨rfl, P4, N4⟩) fun r s4 hr => ?_)
 refine CP (fun e₀0 P4 N4 => ?_) <| hr; obtain rfl := e₀0
 have F4 := (F.nxg (Zn := []) N4 hw (fun b hb => nomatch hb) P4 (by simp; exact ⟨hl.2, hl.1⟩) (fun y d e => by rw [hc y] at e; cases e)).1
 exact h s4 ⟨⟨Zc, F4, h0, h1, h2⟩, G.nx.trans (N4.sub (fun b hb => by simp at hb ⊢; rcases hb with h | h <;> simp [h]) fun b hb => hb), trivial, fun _ _ _ _ => trivial⟩
end
inductive TrN (h9 : Heap) (e9 t9 : Addr) (cls : String) : Prop
 | mk (oe : Obj) (vs : Array Value) (he : h9.get? e9 = some oe) (hc : oe.cls = .type cls) (hd : oe.data = .fields vs) (h0 : vs[0]? = some (.ref t9)) (h2 : vs[2]? = some .none) (h1 : vs[1]? = some .none)
inductive TrF (h9 base : Heap) (e9 t9 : Addr) (cls : String) (fl9 : Value) : Prop
 | mk (oe : Obj) (vs : Array Value) (T : Addr) (oT : Obj) (ts : Array Value) (he : h9.get? e9 = some oe) (hc : oe.cls = .type cls) (hd : oe.data = .fields vs) (h0 : vs[0]? = some (.ref t9)) (h2 : vs[2]? = some .none) (h1 : vs[1]? = some (.ref T)) (hn : base.get? T = none) (hT : T ≠ e9) (hg : h9.get? T = some oT) (ht : oT.data = .fields ts) (h3 : ts[3]? = some fl9)
def TrO (h base : Heap) (e t : Addr) (cls : String) : Prop := TrN h e t cls ∨ TrF h base e t cls .none
theorem TrF.exc {base : Heap} {e t : Addr} {cls : String} {fl : Value} (f : ∀ oe vs, h.get? e = some oe → oe.cls = .type cls → oe.data = .fields vs → vs[0]? = some (.ref t) → vs[2]? = some .none → G) (x : TrF h base e t cls fl) : G := by
 cases x with | mk oe vs T oT ts he hc hd h0 h2 => exact f oe vs he hc hd h0 h2
section
variable {M : Model} {base : Heap} {outer : List Env} {F e t : Addr} {cls : String}
theorem JS {oe : Obj} {vs : Array Value} {head : Value} {hadNext : Bool} {Q : Unit → Shared → Prop} (hfr : A.frames = some (env :: outer)) (hl : s.heap.FunFrames base (env :: outer)) (hf : env.frame = some F)
  (he : s.heap.get? e = some oe) (hkb : base.StaysIn s.heap) (hen : base.get? e = none) (hcls : oe.cls = .type cls) (hd : oe.data = .fields vs) (hsz : 1 < vs.size) (h0 : vs[0]? = some (.ref t)) (h2 : vs[2]? = some .none)
  (h : ∀ h', base.StaysIn h' → h'.FunFrames base (env :: outer) → TrF h' base e t cls (rawInt F) → s.heap.UpToSlots h' → Q () { s with heap := h' }) :
  wpAny M A (do let a ← frameOf env; let pl ← entryPlaceOf F hadNext; let b ← EntryCells.newEntry head a .none (rawInt F) .none pl; setField (.ref e) 1 b) Q E s := by
 have hef : e ∉ (env :: outer).filterMap (·.frame) := fun hm => by
  obtain ⟨_, o, ho, hnf⟩ := hl.mem hm
  rw [he] at ho
  exact hnf vs (by rw [← Option.some.inj ho]; exact hd)
 refine wpAny_bind (wpAny_frameOf_fun hfr hl hf fun h₁ hs₁ => ?_)
 refine wpAny_bind (wpAny_entryPlaceOf fun pl hpl => ?_)
 unfold EntryCells.newEntry newFields
 refine wpAny_bind (wpAny_newObj_type ?_ (hpl.sizeOk5 _ _ _ _ _))
 generalize htb : ({ cls := .type "traceback", dict := none, data := .fields ([head, .ref F, .none, rawInt F, .none] ++ (if pl.isEmpty then replicate 6 Value.none else pl)).toArray } : Obj) = tb
 have htd : tb.data = .fields ([head, .ref F, .none, rawInt F, .none] ++ (if pl.isEmpty then replicate 6 Value.none else pl)).toArray := by rw [← htb]
 have hnew := get?_push_size h₁ (o := tb) (Obj.isFreed_of_fields htd)
 have he₁ : h₁.get? e = some oe := (hs₁.2.1 e hef).trans he
 have he₂ := get?_push_of_some (h := h₁) tb he₁
 refine wpAny_setField he₂ hd hsz ?_
 have hTe : h₁.objs.size ≠ e := ne_of_gt (lt_size he₁)
 have hTn : base.get? h₁.objs.size = none := by
  cases q : base.get? h₁.objs.size with
  | none => rfl
  | some o =>
   have := lt_size (hkb _ _ q)
   rw [show h₁.objs.size = s.heap.objs.size from hs₁.1] at this
   exact absurd this (lt_irrefl _)
 generalize hf₂ : ((h₁.push tb).update e (Obj.mapFields (·.setIfInBounds 1 (Value.ref h₁.objs.size)))) = h₂
 have keep : ∀ b o, b ≠ e → h₁.get? b = some o → h₂.get? b = some o := fun b o hbe hb => by
  rw [← hf₂, get?_update_other _ _ (Ne.symm hbe)]
  exact get?_push_of_some _ hb
 have hne : ∀ b o, s.heap.get? b = some o → (∀ vs, o.data ≠ .fields vs) → b ≠ e := fun b o hb hnf q => by
  rw [q, he] at hb
  exact hnf vs (by rw [← Option.some.inj hb]; exact hd)
 have hd₃ := Obj.data_mapFields hd (·.setIfInBounds 1 (Value.ref h₁.objs.size))
 refine h h₂ (fun b o hbo => keep b o (fun q => by rw [q, hen] at hbo; cases hbo) ((hs₁.2.1 b fun hm => by rw [(hl.mem hm).1] at hbo; cases hbo).trans (hkb b o hbo))) (hl.of_keeps fun b o hb hnf => ?_) ?_ fun b o hb hnf => ?_
 ·refine Ao (fun sl hs => ?_) <| hs₁.2.2 b o hb
  exact ⟨_, keep b _ (hne b o hb hnf) hs, rfl⟩
 ·refine ⟨_, _, h₁.objs.size, tb, _, by rw [← hf₂]; exact get?_update_self _ he₂ (Obj.isFreed_of_fields hd₃), (Obj.cls_mapFields _ _).trans hcls, hd₃, ?_, ?_, by simp [hsz], hTn, hTe, by rw [← hf₂, get?_update_other _ _ (Ne.symm hTe)]; exact hnew, htd, ?_⟩
  ·rw [Array.getElem?_setIfInBounds_ne (by decide)]; exact h0
  ·rw [Array.getElem?_setIfInBounds_ne (by decide)]; exact h2
  ·rcases hpl with rfl | ⟨_, _, _, _, _, _, _, rfl⟩ <;> simp
 ·refine Ao (fun sl hs => ?_) <| hs₁.2.2 b o hb
  exact ⟨sl, keep b _ (hne b o hb hnf) hs⟩
theorem M8 {Q : Unit → Shared → Prop} (hfr : A.frames = some (env :: outer)) (hl : s.heap.FunFrames base (env :: outer)) (hf : env.frame = some F) (ht : TrO s.heap base e t cls) (hkb : base.StaysIn s.heap) (hen : base.get? e = none)
  (h : ∀ h', base.StaysIn h' → h'.FunFrames base (env :: outer) → TrF h' base e t cls (rawInt F) → s.heap.UpToSlots h' → Q () { s with heap := h' }) : wpAny M A (noteFrame (.ref e) env) Q E s := by
 rcases ht with ⟨oe, vs, he, hc, hd, h0, h2, h1⟩ | ⟨oe, vs, T, oT, ts, he, hc, hd, h0, h2, h1, hnT, hTe, hT, hdT, h3⟩
 ·unfold noteFrame
  simp only [hf]
  refine wpAny_bind (wpAny_field he hd h1 ?_)
  rw [if_neg (by decide)]
  exact JS hfr hl hf he hkb hen hc hd (Array.getElem?_eq_some_iff.mp h1).1 h0 h2 h
 ·unfold noteFrame
  simp only [hf]
  refine wpAny_bind (wpAny_field he hd h1 ?_)
  rw [if_pos (show (Value.ref T != Value.none) = true from by simp)]
  refine wpAny_bind (wpAny_field hT hdT h3 ?_)
  rw [if_neg (show ¬ ((Value.none == rawInt F) = true) from by simp [rawInt])]
  refine wpAny_bind (wpAny_setField hT hdT (Array.getElem?_eq_some_iff.mp h3).1 ?_)
  have other : ∀ b, b ≠ T → (s.heap.update T (Obj.mapFields (·.setIfInBounds 3 Value.none))).get? b = s.heap.get? b := fun b hb => get?_update_other _ _ (Ne.symm hb)
  have hne : ∀ b o, s.heap.get? b = some o → (∀ vs, o.data ≠ .fields vs) → b ≠ T := fun b o hb hnf q => by
   rw [q, hT] at hb; exact hnf ts (by rw [← Option.some.inj hb]; exact hdT)
  refine JS hfr (hl.of_keeps fun b o hb hnf => ⟨o, (other b (hne b o hb hnf)).trans hb, rfl⟩) hf ((other e (Ne.symm hTe)).trans he)
   (fun b o hbo => (other b fun q => by rw [q, hnT] at hbo; cases hbo).trans (hkb b o hbo)) hen hc hd (Array.getElem?_eq_some_iff.mp h1).1 h0 h2
   fun h' x1 x2 x3 x4 => h h' x1 x2 x3 fun b o hb hnf => x4 b o ((other b (hne b o hb hnf)).trans hb) hnf
theorem Jy {fl : Value} {Q : Unit → Shared → Prop} (hkb : base.StaysIn s.heap) (hl : s.heap.FunFrames base l) (ht : TrF s.heap base e t cls fl)
  (h : ∀ h', base.StaysIn h' → h'.FunFrames base l → TrF h' base e t cls .none → s.heap.UpToSlots h' → Q () { s with heap := h' }) : wpAny M A (setFlight (.ref e) none) Q E s := by
 obtain ⟨oe, vs, T, oT, ts, he, hc, hd, h0, h2, h1, hnT, hTe, hT, hdT, h3⟩ := ht
 have hsz3 : 3 < ts.size := (Array.getElem?_eq_some_iff.mp h3).1
 have other : ∀ b, b ≠ T → (s.heap.update T (Obj.mapFields (·.setIfInBounds 3 ((none : Option Addr).elim Value.none fun f => rawInt f)))).get? b = s.heap.get? b :=
  fun b hb => get?_update_other _ _ (Ne.symm hb)
 have hne : ∀ b o, s.heap.get? b = some o → (∀ vs, o.data ≠ .fields vs) → b ≠ T := fun b o hb hnf q => by
  rw [q, hT] at hb; exact hnf ts (by rw [← Option.some.inj hb]; exact hdT)
 unfold setFlight
 refine wpAny_bind (wpAny_field he hd h1 ?_)
 rw [if_pos (show (Value.ref T != Value.none) = true from by simp)]
 refine wpAny_setField hT hdT hsz3 (h _ (fun b o hbo => (other b fun q => by rw [q, hnT] at hbo; cases hbo).trans (hkb b o hbo))
  (hl.of_keeps fun b o hb hnf => ⟨o, (other b (hne b o hb hnf)).trans hb, rfl⟩) ?_ fun b o hb hnf => ⟨o.slots, (other b (hne b o hb hnf)).trans hb⟩)
 exact ⟨oe, vs, T, _, _, (other e (Ne.symm hTe)).trans he, hc, hd, h0, h2, h1, hnT, hTe, get?_update_self _ hT (Obj.isFreed_of_fields (Obj.data_mapFields hdT _)), Obj.data_mapFields hdT _, by simp [hsz3]⟩
theorem Ny {Q : Unit → Shared → Prop} (hfr : A.frames = some (env :: outer)) (hl : s.heap.FunFrames base (env :: outer)) (hf : env.frame = some F) (ht : TrO s.heap base e t cls) (hkb : base.StaysIn s.heap) (hen : base.get? e = none)
  (h : ∀ h', base.StaysIn h' → h'.FunFrames base (env :: outer) → TrF h' base e t cls .none → s.heap.UpToSlots h' → Q () { s with heap := h' }) : wpAny M A (leaving env (.ref e)) Q E s := by
 unfold leaving
 exact wpAny_bind (M8 hfr hl hf ht hkb hen fun h1 a1 a2 a3 a4 => Jy a1 a2 a3 fun h2 b1 b2 b3 b4 => h h2 b1 b2 b3 (a4.trans b4))
end
structure Dz (base : Heap) (fr : List Addr) (l : List Env) (e : Addr) (cls : String) (msg : List Nat) (sr s' : Shared) : Prop where
 sub : ∀ b o, base.get? b = some o → sr.heap.get? b = some o
 all : ∀ b o, sr.heap.get? b = some o → b ∉ fr → base.get? b = some o
 stays : base.StaysIn s'.heap
 new : sr.heap.get? e = none
 frames : s'.heap.FunFrames base l
 tr : ∃ t u, TrO s'.heap base e t cls ∧ s'.heap.TupAt t [.str ⟨msg.toArray⟩ u] ∧ sr.heap.get? t = none
 slots : sr.heap.UpToSlots s'.heap
 gens : s'.gens = sr.gens
 os : s'.os = sr.os
theorem Dz.base_none {base : Heap} {e : Addr} {cls : String} (T : Dz base fr l e cls msg sr s') {b : Addr} (h : sr.heap.get? b = none) : base.get? b = none := by
 cases q : base.get? b with
 | none => rfl
 | some o => rw [T.sub b o q] at h; cases h
def E8 (l : List Env) (L : Ai) (s : Shared) : Prop := ∀ env ∈ l, env.scope.kind ≠ .module ∧ ∃ F o, env.frame = some F ∧ F ∉ dom L ∧ s.heap.get? F = some o ∧ ∀ vs, o.data ≠ .fields vs
theorem E8.ext (x : E8 l L s) (k : BF L L' s s') : E8 l L' s' := fun env he =>
 by
 refine Av (fun h1 y => ⟨h1, ?_⟩) (x env he)
 refine QL (fun F o h2 h3 h4 h5 => ?_) y
 exact ⟨F, o, h2, (k.heap F o h4 h3).2, (k.heap F o h4 h3).1, h5⟩
inductive Lw (X9 : Cx) (H9 : Option Value) (Z9 : List Addr) (L9 : Ai) (s9 : Shared) (l9 : List Env) (cls : String) (msg9 : List Nat) (Q9 : Ai → Prop) (e9 : Addr) (s'9 : Shared) : Prop
 | mk (sr : Shared) (L' : Ai) (base : Heap) (fr zr : List Addr) (q : Q9 L') (P : Hp X9 H9 (zr ++ Z9) L' sr) (e1 : BF L9 L' s9 sr) (T : Dz base fr l9 e9 cls msg9 sr s'9) (hz : ∀ b ∈ zr, s9.heap.get? b = none) (hfr : ∀ b ∈ fr, (∃ env ∈ l9, env.frame = some b) ∨ b ∈ zr)
inductive Ij (X9 : Cx) (H9 : Option Value) (Z9 : List Addr) (env9 : Env) (nm9 : Nm) (L9 : Ai) (s9 : Shared) (l9 : List Env) (cls : String) (msg9 : List Nat) (Q9 : QS) (e9 : Addr) (s'9 : Shared) : Prop
 | mk (sr : Shared) (m' : AU) (L' : Ai) (base : Heap) (fr zr : List Addr) (q : Q9 m' L') (F : Fm X9 H9 (zr ++ Z9) env9 nm9 m' L' sr) (e1 : B9 env9 nm9 L9 L' s9 sr) (T : Dz base fr l9 e9 cls msg9 sr s'9) (hz : ∀ b ∈ zr, s9.heap.get? b = none) (hfr : ∀ b ∈ fr, (∃ env9 ∈ l9, env9.frame = some b) ∨ b ∈ zr)
section
variable (X : Cx) (A : Around) (env : Env) (nm : Nm)
def WXS {α : Type} (m : AU) (t : Sem α) (L : Ai) (l : List Env) (cls : String) (msg : List Nat) (Q : QS) : Prop :=
 ∀ Z s (E : QV), Fm X A.handled Z env nm m L s → E8 l L s → (∀ e s', Ij X A.handled Z env nm L s l cls msg Q e s' → E (.ref e) s') → wpAny X.M A t (fun _ _ => False) E s
def DC (f : PV) (ps : List PV) (ks : List (Str × PV)) (L : Ai) (l : List Env) (cls : String) (msg : List Nat) (Q : Ai → Prop) : Prop :=
 ∀ Z s (E : QV) fv vs kvs, Hp X A.handled Z L s → Aj (dz L Z) s.heap f fv → Ae (dz L Z) s.heap ps vs → BO (dz L Z) s.heap ks kvs → E8 l L s →
  (∀ e s', Lw X A.handled Z L s l cls msg Q e s' → E (.ref e) s') → wpAny X.M A (call fv vs kvs) (fun _ _ => False) E s
end
section
variable {cls : String} {Q : QS}
theorem FG {b : Addr} (live : ∀ a o, s.heap.get? a = some o → ∃ o', s1.heap.get? a = some o') (h : s1.heap.get? b = none) : s.heap.get? b = none := by
 cases q : s.heap.get? b with
 | none => rfl
 | some o => refine Ao (fun o' e' => ?_) <| live b o q; rw [h] at e'; cases e'
theorem Ij.after {e : Addr} (k : B9 env nm L L1 s s1) (x : Ij X H Z env nm L1 s1 l cls msg Q e s') : Ij X H Z env nm L s l cls msg Q e s' := by
 obtain ⟨sr, m', L', base, fr, zr, q, F, e1, T, hz, hfr⟩ := x
 exact ⟨sr, m', L', base, fr, zr, q, F, k.trans e1, T, fun b hb => FG k.live (hz b hb), hfr⟩
theorem B5 {rest : List Stmt} (h : WXS X A env nm m (exec st env) L l cls msg Q) : WXS X A env nm m (execs (st :: rest) env) L l cls msg Q := fun Z s E F O k => by
 refine wpAny_execs_cons (Ap (h Z s E F O k) fun f s1 h1 => h1.elim)
theorem EV (h : WT X A env nm m (isTrue test env (eval test env)) L (fun L1 => WXS X A env nm m (execs body env) L1 l cls msg Q) fun L1 => WXS X A env nm m (execs orelse env) L1 l cls msg Q) :
  WXS X A env nm m (exec (.If test body orelse pos) env) L l cls msg Q := fun Z s E F O k => by
 refine wpAny_If (wb (h Z s E F) fun b s1 L1 h2 P1 e1 => ?_)
 have F1 := F.ext e1 P1
 rcases h2 with ⟨rfl, h2⟩ | ⟨rfl, h2⟩
 ·exact Ap (h2 Z s1 E F1 (O.ext e1) fun e s' x => k e s' (x.after e1.toS)) fun _ _ h5 => h5
 ·exact Ap (h2 Z s1 E F1 (O.ext e1) fun e s' x => k e s' (x.after e1.toS)) fun _ _ h5 => h5
theorem Ee (hs : swapsWith e (some (.Name x pos')) pos.line env = pure false) (h : WXS X A env nm m (eval e env) L l cls msg Q) : WXS X A env nm m (exec (.Assign [.Name x pos'] e pos) env) L l cls msg Q := fun Z s E F O k => by
 exact wpAny_Assign_Name (Ap (h Z s E F O k) fun v s1 h1 => h1.elim) hs
theorem Ky (h : WXS X A env nm m (eval e env) L l cls msg Q) (hs : swapsWith e none pos.line env = pure false) : WXS X A env nm m (exec (.Expr e pos) env) L l cls msg Q := fun Z s E F O k => by
 exact wpAny_Expr (Ap (h Z s E F O k) fun v s1 h1 => h1.elim) (by show (env.scope.kind == .module && _) = false; rw [F.ok.kind]; rfl) hs
theorem Dz.fm {zr : List Addr} {base : Heap} {e : Addr} (T : Dz base fr [env] e cls msg sr s') (F : Fm X none (zr ++ Z) env nm m L sr) (hf : env.frame = some env.locals) (hfr : ∀ b ∈ fr, (∃ env' ∈ [env], env'.frame = some b) ∨ b ∈ zr) (hz : ∀ b ∈ Z, b ∉ zr) (hl : env.locals ∈ Z)
  (hc : ∀ x c, env.cells.lookup x = some c → c ∈ Z) : Fm X (some (.ref e)) Z env nm m L s' ∧ (∀ b o, sr.heap.get? b = some o → b ≠ env.locals → b ∉ zr → s'.heap.get? b = some o) ∧ ∃ o', s'.heap.get? env.locals = some o' := by
 have stand : ∀ b o, sr.heap.get? b = some o → b ≠ env.locals → b ∉ zr → s'.heap.get? b = some o := fun b o q h1 h2 => T.stays b o (T.all b o q fun hb => by
  rcases hfr b hb with ⟨env', he', q⟩ | q
  ·rw [List.mem_singleton.mp he', hf] at q
   exact h1 (Option.some.inj q).symm
  ·exact h2 q)
 have ap : ∀ b, b ∉ dz L (zr ++ Z) → b ≠ env.locals ∧ b ∉ zr := fun b n => ⟨fun q => n (mem_append_right _ (mem_append_right _ (q ▸ hl))), fun q => n (mem_append_right _ (mem_append_left _ q))⟩
 have sub : ∀ b, b ∈ dz L Z → b ∈ dz L (zr ++ Z) := fun b hb => (List.mem_append.mp hb).elim (mem_append_left _) fun q => mem_append_right _ (mem_append_right _ q)
 have kp : Kp (dz L (zr ++ Z)) (dz L Z) sr.heap s'.heap := fun b o q n => ⟨stand b o q (ap b n).1 (ap b n).2, fun hm => n (sub b hm)⟩
 refine Ao (fun mv hns => ?_) <| F.nsx
 have lns := T.slots.ns hns
 refine Bv (fun t u t1 t2 t3 => ?_) <| T.tr
 have hen : e ∉ dz L Z := fun hm => by
  have := F.hp.lt (sub e hm)
  have h0 : ∃ o, sr.heap.get? e = some o := by
   rcases List.mem_append.mp hm with q | q
   ·exact F.hp.led_live q
   ·exact F.hp.zone e (mem_append_right _ q)
  refine Ao (fun o q => ?_) <| h0
  rw [T.new] at q; cases q
 have ck : ∀ x c o, env.cells.lookup x = some c → sr.heap.get? c = some o → s'.heap.get? c = some o := fun x c o h q => stand c o q (F.cz x c h).2.1 fun h' => hz c (hc x c h) h'
 have P : Hp X (some (.ref e)) Z L s' := by
  refine ⟨fun b o q => ?_, T.os.trans F.hp.os, by rw [T.gens]; exact F.hp.bare, fun x hx => ?_, F.hp.nodup, fun a ha => F.hp.fresh a (sub a ha), fun a ha hm => F.hp.apart a ha (mem_append_right _ hm), fun b hb => ?_, ?_⟩
  ·have n := F.hp.base q
   exact stand b o (F.hp.keep b o q) (ap b n).1 (ap b n).2
  ·have h1 : x.1 ∉ zr ++ Z := F.hp.apart _ (AX hx)
   exact BP.kp kp (fun ob q => stand _ ob q (fun q => h1 (mem_append_right _ (q ▸ hl))) fun q => h1 (mem_append_left _ q)) (F.hp.led x hx)
  ·by_cases q : b = env.locals
   ·refine CQ (fun o _ _ e _ => ?_) <| lns; exact ⟨o, q ▸ e⟩
   ·refine Ao (fun o e => ?_) <| F.hp.zone b (mem_append_right _ hb)
    exact ⟨o, stand b o e q (hz b hb)⟩
  ·rcases t1 with ⟨oe, vs, he, hcl, hd, h0, h2, _⟩ | ⟨oe, vs, _, _, _, he, hcl, hd, h0, h2, _⟩
   ·exact ⟨e, oe, vs, rfl, he, hen, hd, h2⟩
   ·exact ⟨e, oe, vs, rfl, he, hen, hd, h2⟩
 refine ⟨⟨P, F.ok, fun x k p hm => ?_, ⟨_, lns⟩, hl, fun x c q => ?_⟩, stand, let ⟨o, _, _, e, _⟩ := lns; ⟨o, e⟩⟩
 ·have N := F.vals x k p hm
  cases k with
  | «local» =>
   refine Bv (fun mv' v hn2 e2 V => ?_) <| N
   rw [DY hn2 hns] at e2
   exact ⟨_, v, lns, e2, V.kp kp⟩
  | cell => refine Bv (fun c v e o₀3 V => ?_) <| N; obtain ⟨o, ho, hd⟩ := o₀3; exact ⟨c, v, e, ⟨o, ck x c o e ho, hd⟩, V.kp kp⟩
  | free => refine Bv (fun c v e o₀3 V => ?_) <| N; obtain ⟨o, ho, hd⟩ := o₀3; exact ⟨c, v, e, ⟨o, ck x c o e ho, hd⟩, V.kp kp⟩
  | globalImplicit => exact N
  | globalExplicit => exact N.elim
 ·obtain ⟨_, h2, v, o, ho, hd⟩ := F.cz x c q
  exact ⟨hc x c q, h2, v, o, ck x c o q ho, hd⟩
end
section
variable {cls : String} {Q : QS}
theorem HL (O : E8 l L s) (hk : ∀ b o, s.heap.get? b = some o → h'.get? b = some o) (ha : ∀ env ∈ l, ∀ F, env.frame = some F → F ∈ as) : h'.FunFrames (hideAll s.heap as) l := by
 induction l with
 | nil => trivial
 | cons env rest ih =>
  obtain ⟨h1, F, o, h2, h3, h4, h5⟩ := O env (.head _)
  exact ⟨h1, ⟨F, o, h2, hideAll_none _ (ha env (.head _) F h2), hk F o h4, h5⟩, ih (fun e he => O e (.tail _ he)) fun e he => ha e (.tail _ he)⟩
theorem IT {newId initId : String} (F0 : ExcCallFacts cls newId initId) (G0 : ExcRaiseFacts cls) (hh : A.handled = none) {cpos : Pos} (hp : (backTo cpos (starEach [e] env)).any (·.1) = false)
  (he : starEach [e] env = (false, eval e env) :: starEach [] env)
  (h : WE X A env nm m (eval (.Name x np) env) L fun p L1 => p = .val (.type cls) ∧ WE X A env nm m (eval e env) L1 fun q L2 => q = .str msg ∧ Q m L2) :
  WXS X A env nm m (exec (.Raise (some (.Call (.Name x np) [e] [] cpos)) none pos) env) L l cls msg Q := fun Z s E F O k => by
 refine wpAny_Raise_call F0 G0 hh hp (wv (h Z s E F) fun v s1 p L1 o2 P1 V1 e1 => ?_)
 obtain ⟨hp1, h1⟩ := o2
 subst hp1
 refine ⟨ET V1, ?_⟩
 have F1 := F.ext e1 P1
 refine evalArgs_kw2 (kws := []) rfl ?_ he
 refine wpAny_items_cons (wv (h1 Z s1 E F1) fun w s2 q L2 o2 P2 V2 e2 => ?_) he
 obtain ⟨hq, h2⟩ := o2
 subst hq
 refine wpAny_items_nil (kwAll_nil ?_)
 refine ⟨rfl, (by decide : 1 ≤ sizeLine), fun h' ex hx => k ex _ ?_⟩
 obtain ⟨hz, u, rfl⟩ := HY V2
 have O2 : E8 l L2 s2 := (O.ext e1).ext e2
 have F2 := F1.ext e2 P2
 refine F9 (fun t t1 t2 t3 => ?_) <| hx.there
 refine ⟨s2, m, L2, hideAll s2.heap (l.filterMap (·.frame)), l.filterMap (·.frame), [], h2, F2, (e1.trans e2).toS, ⟨fun b o => of_hideAll _, fun b o q n => hideAll_get _ q n, fun b o q => hx.keeps b o (of_hideAll _ q), hx.new, ?_, ⟨t, u, .inl ⟨_, _, t1, rfl, rfl, rfl, rfl, rfl⟩, ⟨_, _, t3, rfl, rfl⟩, t2⟩, Heap.UpToSlots.of_keeps hx.keeps, rfl, rfl⟩, (fun _ hb => nomatch hb), fun b hb => ?_⟩
 ·exact HL O2 hx.keeps fun env he F hf => List.mem_filterMap.mpr ⟨env, he, hf⟩
 ·refine Ar (fun env' he' hf => ?_) <| List.mem_filterMap.mp hb
  exact .inl ⟨env', he', hf⟩
theorem Lw.toS {e : Addr} (F : Fm X H Z env nm m L s) (k : BF L L1 s s1) (x : Lw X H Z L1 s1 l cls msg (fun L' => Q m L') e s') : Ij X H Z env nm L s l cls msg Q e s' := by
 obtain ⟨sr, L', base, fr, zr, q, P, e1, T, hz, hfr⟩ := x
 have hz' := fun b hb => FG k.live (hz b hb)
 exact ⟨sr, m, L', base, fr, zr, q, F.grow (k.trans e1) hz' P, (k.trans e1).toS, T, hz', hfr⟩
theorem Ef {f : PySem.Expr}
  (h : WE X A env nm m (eval f env) L fun pf L1 => Bw X pf ∧ WEs X A env nm m (spliced (backTo pos (starEach (e :: rest) env))) L1 fun ps L2 => WKs X A env nm m pos kws L2 fun ks L3 =>
   DC X A pf ps (((backToKw pos (keywordEach kws env)).filterMap (·.1)).zip ks) L3 l cls msg fun L' => Q m L')
  (hc : eval (.Call f (e :: rest) kws pos) env = (do callWith pos (← eval f env) [] (backTo pos (starEach (e :: rest) env)) (backToKw pos (keywordEach kws env))))
  (he : starEach (e :: rest) env = (false, eval e env) :: starEach rest env)
  (hplain : ((backTo pos (starEach (e :: rest) env)).any (·.1) || (backToKw pos (keywordEach kws env)).any (·.1.isNone)) = false)
  (hall : (backToKw pos (keywordEach kws env)).all (·.1.isSome) = true) : WXS X A env nm m (eval (.Call f (e :: rest) kws pos) env) L l cls msg Q := fun Z s E F O k => by
 rw [hc]
 refine wpAny_bind (wv (h Z s E F) fun fv s1 pf L1 o2 P1 V1 e1 => ?_)
 obtain ⟨K, h1⟩ := o2
 have F1 := F.ext e1 P1
 refine Ew (P := fun _ _ => False) K F1 V1 .nil (h1.mono fun ps L2 h2 => h2.mono fun ks L3 h3 => fun s3 fv vs kvs P3 Vf Vs Ks e3 => ?_) he hplain hall
 refine h3 Z s3 E fv vs kvs P3 Vf Vs Ks ((O.ext e1).ext e3) fun ex s' x => k ex s' ?_
 exact x.toS F (e1.trans e3)
theorem EA {sl : Array (Option Value)} {Q : Ai → Prop} (hfr : A.frames = some l)
  (ho : X.h₀.get? fa = some ⟨oc, od, .func fd, sl⟩) (hcd : X.h₀.CodeRec fd.code fd.qualname) (hroom : A.depth < recursionLimit) (hsc : Eg fd.scope) (hbind : AM X fd ps ks bs) (bn : List Str) (hb0 : bs.map (·.1) = bn) (hbn : Dc (bn.map Str.code) = true)
  (hbk : ∀ x ∈ bn, (x, NameKind.local) ∈ fd.scope.names ∨ (x, NameKind.cell) ∈ fd.scope.names) (I : Eu X bs fd.scope.names m₀) (hnf : ∀ x ∈ fd.scope.names, x.2 ≠ .free)
  (h : ∀ env : Env, A8 env fd.scope.names → env.frame = some env.locals → WXS X (A.deeper env) env fd.scope.names m₀ (execs body env) L (env :: l) cls msg fun _ L' => Q L')
  (hbody : fd.body = .stmts body) (hclo : fd.closure = []) (hg : fd.globals = mainGlobals) (hb : fd.builtins = builtinsNs) (hco : fd.scope.isCoroutine = false) (hgen : fd.scope.isGenerator = false) :
  DC X A (.val (.ref fa)) ps ks L l cls msg Q := fun Z s E fv vs kvs P Vf Vs Ks O k => by
 apply AI Vf
 subst hb0
 have hbn : (bs.map (·.1)).Nodup := (List.pairwise_map.mp (Ce hbn)).imp fun hne e => hne (by rw [e])
 refine Ar (fun binds hB KB => ?_) <| hbind _ Z L s vs kvs P Vs Ks
 refine wpAny_call (codeAny_call_function hroom (P.keep _ _ ho) rfl hco hgen hbody (hcd.keeps P.keep) (hB _ _ _ _ ?_))
 rw [hclo]
 refine wpAny_newFunctionEnv_cells hsc.kind (fun x hx => ?_) fun env he s₁ x => ?_
 ·have hx' : x.1 ∈ bs.map (·.1) := by rw [← KB.names]; exact mem_map_of_mem hx
  rcases hbk _ hx' with q | q
  ·exact .inl (Au hsc.nodup q)
  ·exact .inr ⟨Au hsc.nodup q, AG (.inl q)⟩
 refine B8 (fun h₁ tk hs₁ hk₁ => ?_) <| x.done
 have k1 : Keeps s s₁ := ⟨h₁, tk, hs₁, hk₁⟩
 have hL : env.locals = s.heap.objs.size := by rw [he]; rfl
 have hcells : env.cells = cellsFrom (s.heap.objs.size + 1) fd.scope.names [] := by rw [he]; rfl
 have hkd : ∀ y k, (y, k) ∈ fd.scope.names → env.kindOf y = some k := fun y k hm => by rw [he]; exact Au hsc.nodup hm
 have cinj : ∀ y z c, env.cells.lookup y = some c → env.cells.lookup z = some c → y = z := fun y z c h1 h2 => name_of_addr x.apart (mem_of_lookup h1) (mem_of_lookup h2)
 have ok : A8 env fd.scope.names := by
  refine ⟨by rw [he]; exact hsc.kind, by rw [he]; exact hg, by rw [he]; exact hb, fun y k hm => ⟨.inl (hkd y k hm), hsc.plain y k hm⟩, fun y k hm hk => ?_, hsc.nodup, cinj⟩
  rcases hk with rfl | rfl
  ·have := AG (n := s.heap.objs.size + 1) (acc := []) (.inl hm)
   rw [hcells]; exact Option.isSome_iff_exists.mp this
  ·exact absurd rfl (hnf _ hm)
 have hzone : ∀ a ∈ env.locals :: env.cells.map (·.2), s.heap.objs.size ≤ a ∧ ∃ o, s₁.heap.get? a = some o := fun a ha => by
  rcases List.mem_cons.mp ha with rfl | ha
  ·refine CQ (fun o _ _ e _ => ?_) <| x.toInCall.ns
   exact ⟨le_of_eq hL.symm, o, e⟩
  ·refine Ar (fun o₀0 hm e₀2 => ?_) <| List.mem_map.mp ha; obtain ⟨y, c⟩ := o₀0; obtain rfl := e₀2
   have hl : env.cells.lookup y = some c := by
    refine Au ?_ hm
    rw [hcells]
    exact Ck hsc.nodup .nil (fun x hx => by cases hx)
   refine Ar (fun o e _ => ?_) <| x.cell y c hl
   have := x.above y c hm
   rw [hL] at this
   exact ⟨le_of_lt this, o, e⟩
 refine Av (fun P1 kp1 => ?_) <| P.grow k1 hzone
 have F : Fm X A.handled (env.locals :: env.cells.map (·.2) ++ Z) env fd.scope.names m₀ L s₁ := by
  refine ⟨P1, ok, fun y k p hm => ?_, ⟨_, x.toInCall.ns⟩, by simp, fun y c e => ?_⟩
  ·rcases I.inv y k p hm with ⟨hb, hk⟩ | ⟨rfl, hgl⟩
   ·refine Ar (fun v hv V => ?_) <| KB.mem hb
    have ndb : (binds.map (·.1)).Nodup := by rw [KB.names]; exact hbn
    have hm' := (of_mem_zip hm).1
    rcases hk with rfl | rfl
    ·exact ⟨_, v, x.toInCall.ns, DS ndb hv (hkd _ _ hm'), V.kp kp1⟩
    ·refine Ao (fun c hc => ?_) <| ok.cells y .cell hm' (.inl rfl)
     exact ⟨c, v, hc, by have := x.cell y c hc; rw [EZ ndb hv (hkd _ _ hm')] at this; exact this, V.kp kp1⟩
   ·exact hgl
  ·have hm := mem_of_lookup e
   have hlt := x.above y c hm
   refine ⟨by simp; exact .inr (.inl ⟨y, hm⟩), ne_of_gt hlt, _, x.cell y c e⟩
 have hframe : env.frame = some env.locals := by rw [he]; rfl
 have O1 : E8 (env :: l) L s₁ := fun env' he' => by
  rcases List.mem_cons.mp he' with rfl | he'
  ·refine BZ (fun o es ep ho hd _ => ?_) <| x.toInCall.ns
   refine ⟨by rw [ok.kind]; decide, _, o, hframe, fun hm => ?_, ho, fun vs q => by rw [hd] at q; cases q⟩
   have := P.lt (mem_append_left Z hm)
   rw [hL] at this
   exact lt_irrefl _ this
  ·obtain ⟨h1, F, o, h2, h3, h4, h5⟩ := O env' he'
   exact ⟨h1, F, o, h2, h3, by rw [hs₁]; exact hk₁ F o h4, h5⟩
 refine ⟨(X.nolimit.keeps P.keep).keeps hk₁ |> fun q => by rw [hs₁]; exact q, codeAny_func (Ap (h env ok hframe _ s₁ _ F O1 fun ex s2 x2 => ?_) fun f s2 h2 => h2.elim)⟩
 obtain ⟨sr, m', L', base, fr, zr, q, Fr, e2, T, hzr, hfrk⟩ := x2
 have ext : BF L L' s sr := by
  refine ⟨fun a o e n => ?_, fun g z e => e2.gens g z (by rw [hs₁]; exact e), fun a o e => e2.live a o (by rw [hs₁]; exact hk₁ a o e)⟩
  have hlt := lt_size e
  refine e2.heap a o (by rw [hs₁]; exact hk₁ a o e) n (by rw [hL]; exact ne_of_lt hlt) fun y _ hy => ?_
  have := x.above y a (mem_of_lookup hy)
  rw [hL] at this
  exact Nat.lt_asymm this hlt
 have PL : Hp X A.handled ((zr ++ (env.locals :: env.cells.map (·.2))) ++ Z) L' sr := by rw [append_assoc]; exact Fr.hp
 refine Bv (fun t u t1 t2 t3 => ?_) <| T.tr
 refine Ny (Around.frames_deeper hfr) T.frames hframe t1 T.stays (T.base_none T.new) fun h' a1 a2 a3 a4 => k ex _ ?_
 have dead1 : ∀ b, s₁.heap.get? b = none → s.heap.get? b = none := fun b hn => by
  cases q : s.heap.get? b with
  | none => rfl
  | some o => have := hk₁ b o q; rw [hs₁] at hn; rw [hn] at this; cases this
 refine ⟨sr, L', base, fr, _, q, PL, ext, ⟨T.sub, T.all, a1, T.new, a2.2.2, ⟨t, u, .inr a3, t2.of_slots a4, t3⟩, T.slots.trans a4, T.gens, T.os⟩, fun b hb => ?_, fun b hb => ?_⟩
 ·rcases List.mem_append.mp hb with hb | hb
  ·exact dead1 b (hzr b hb)
  ·exact Ac _ (hzone b hb).1
 ·rcases hfrk b hb with ⟨env', he', hf⟩ | hn
  ·rcases List.mem_cons.mp he' with rfl | he'
   ·rw [hframe] at hf; cases hf
    exact .inr (mem_append_right _ (.head _))
   ·exact .inl ⟨env', he', hf⟩
  ·exact .inr (mem_append_left _ hn)
end
inductive Uns : Nm → AU → Str → AU → Prop
 | here {x q ns m : _} : Uns ((x, .local) :: ns) (q :: m) x (none :: m)
 | there {x y q ns m m' : _} : Uns ns m x m' → Uns (y :: ns) (q :: m) x (q :: m')
theorem Uns.mem (h : Uns ns m x m') : (x, NameKind.local) ∈ ns := by
 induction h with
 | here => exact .head _
 | there _ ih => exact .tail _ ih
theorem Uns.inv (h : Uns ns m x m') (nd : (ns.map (·.1)).Nodup) : ∀ y ky q, ((y, ky), some q) ∈ ns.zip m' → y ≠ x ∧ ((y, ky), some q) ∈ ns.zip m := by
 induction h with
 | @here x q ns m =>
  intro y ky q' hm
  rw [List.zip_cons_cons] at hm
  rcases List.mem_cons.mp hm with e | hm2
  ·cases e
  ·refine ⟨fun e => ?_, .tail _ hm2⟩
   subst e
   exact (List.nodup_cons.mp nd).1 (List.mem_map.mpr ⟨(y, ky), (of_mem_zip hm2).1, rfl⟩)
 | @there x z q ns m m' h ih =>
  intro y ky q' hm
  rw [List.zip_cons_cons] at hm
  rcases List.mem_cons.mp hm with e | hm2
  ·refine ⟨fun e' => ?_, ?_⟩
   ·have : z = (y, ky) := (Prod.mk.inj e).1.symm
    subst this; subst e'
    exact (List.nodup_cons.mp nd).1 (List.mem_map.mpr ⟨_, h.mem, rfl⟩)
   ·rw [e]; exact .head _
  ·refine Av (fun h1 h2 => ?_) <| ih (List.nodup_cons.mp nd).2 y ky q' hm2
   exact ⟨h1, .tail _ h2⟩
theorem Fm.unheld (F : Fm X H Z env nm m L s) : Fm X none Z env nm m L s := ⟨⟨F.hp.keep, F.hp.os, F.hp.bare, F.hp.led, F.hp.nodup, F.hp.fresh, F.hp.apart, F.hp.zone, trivial⟩, F.ok, F.vals, F.nsx, F.lz, F.cz⟩
theorem Fm.goes {n : Str} {Q : Unit → Shared → Prop} (F : Fm X H Z env nm m L s) (U : Uns nm m n m') (h : ∀ s', Fm X H Z env nm m' L s' → B9 env nm L L s s' → Q () s') :
  wpAny X.M A (do bindName env n .none; unbindBehindTheSuite env n pos) Q E s := by
 have hkd : env.kindOf n = some .local := by
  rcases (F.ok.names n .local U.mem).1 with e | ⟨e, _⟩
  ·exact e
  ·cases e
 refine Ao (fun mv hn => ?_) <| F.nsx
 refine wpAny_nameGoes_keeps hkd hn (by rw [F.ok.kind]; rfl) fun h' v hn' hs => h _ ?_ ?_
 ·refine Av (fun P kp => ?_) <| F.write (tk := s.toks + 1) F.lz hs (let ⟨o, _, _, e, _⟩ := hn'; ⟨o, e⟩)
  have ck : ∀ y c o, env.cells.lookup y = some c → s.heap.get? c = some o → h'.get? c = some o := fun y c o e ho => (hs.2 c (F.cz y c e).2.1).trans ho
  refine ⟨P, F.ok, fun y ky q hm => ?_, ⟨_, hn'⟩, F.lz, fun y c e => ?_⟩
  ·refine Av (fun hne hm' => ?_) <| U.inv F.ok.nodup y ky q hm
   have N := F.vals y ky q hm'
   cases ky with
   | «local» =>
    refine Bv (fun mv' v' hn2 e2 V2 => ?_) <| N
    rw [DY hn2 hn] at e2
    exact ⟨_, v', hn', by rw [if_neg hne]; exact e2, V2.kp kp⟩
   | cell => refine Bv (fun c v' e o₀3 V2 => ?_) <| N; obtain ⟨o, ho, hd⟩ := o₀3; exact ⟨c, v', e, ⟨o, ck y c o e ho, hd⟩, V2.kp kp⟩
   | free => refine Bv (fun c v' e o₀3 V2 => ?_) <| N; obtain ⟨o, ho, hd⟩ := o₀3; exact ⟨c, v', e, ⟨o, ck y c o e ho, hd⟩, V2.kp kp⟩
   | globalImplicit => exact N
   | globalExplicit => exact N.elim
  ·obtain ⟨hz, hne, v', o, ho, hd⟩ := F.cz y c e
   exact ⟨hz, hne, v', o, ck y c o e ho, hd⟩
 ·refine ⟨fun a o e n nl _ => ⟨(hs.2 a nl).trans e, n⟩, fun _ _ e => e, fun a o e => ?_⟩
  by_cases q : a = env.locals
  ·refine CQ (fun o' _ _ e' _ => ?_) <| hn'; exact ⟨o', q ▸ e'⟩
  ·exact ⟨o, (hs.2 a q).trans e⟩
theorem EK : isSubtype (.type ((Manifest.find? "ValueError").elim "type" fun x => x.metatype)) (.type "tuple") = pure false := by rw [isSubtype_type]; kernel_rfl
theorem Dz.next {base : Heap} {e t : Addr} {u : Tok} {cls : String} (T : Dz base fr l e cls msg sr s') (t2 : s'.heap.TupAt t [.str ⟨msg.toArray⟩ u]) (t3 : sr.heap.get? t = none) (a1 : base.StaysIn h') (a2 : h'.FunFrames base l) (a3 : TrO h' base e t cls) (a4 : s'.heap.UpToSlots h') :
  Dz base fr l e cls msg sr { s' with heap := h', toks := tk } := ⟨T.sub, T.all, a1, T.new, a2, ⟨t, u, a3, t2.of_slots a4, t3⟩, T.slots.trans a4, T.gens, T.os⟩
theorem OK {suite : List Stmt} {b₀ : Stmt} {n : Str} {hpos : Pos} (hfr : A.frames = some [env]) (hf : env.frame = some env.locals) (hh : A.handled = none) (hmsg : msg.length ≤ sizeLine)
  (h : WXS X A env nm m (execs body env) L [env] "ValueError" msg fun m1 L1 => (∃ kx, Lk nm m1 x kx (.val (.type "ValueError"))) ∧ ∃ m2, Stn nm m1 n .local (.exc "ValueError" msg) m2 ∧
   ∀ e : Addr, WS X (A.mark (some (.ref e))) env nm m2 (execs (b₀ :: suite) env) L1 (fun m3 L3 => ∃ m4, Uns nm m3 n m4 ∧ Qn m4 L3) (fun _ _ => False) (fun _ _ => False) (fun _ _ => False)) :
  WS X A env nm m (exec (.Try body [.ExceptHandler (some (.Name x np)) (some n) (b₀ :: suite) hpos] [] [] pos) env) L Qn Qr Qb Qc := fun Z s E F => by
 have hO : E8 [env] L s := fun env' he' => by
  rw [List.mem_singleton.mp he']
  refine OQ (fun mv o es ep ho hd _ => ?_) <| F.nsx
  exact ⟨by rw [F.ok.kind]; decide, _, o, hf, fun hm => F.hp.apart _ hm F.lz, ho, fun vs q => by rw [hd] at q; cases q⟩
 refine wpAny_Try_except (Ap (h Z s _ F hO fun e s' x => ?_) fun _ _ h => h.elim)
 obtain ⟨sr, m1, L1, base, fr, zr, ⟨⟨kx, hx⟩, m2, hn, hs⟩, F1, e1, T, hz, hfrk⟩ := x
 have hzz : ∀ b ∈ Z, b ∉ zr := fun b hb hm => by
  refine Ao (fun o q => ?_) <| F.hp.zone b hb
  rw [hz b hm] at q; cases q
 have hcz : ∀ x c, env.cells.lookup x = some c → c ∈ Z := fun x c q => (F.cz x c q).1
 refine Bv (fun t u t1 t2 t3 => ?_) <| T.tr
 refine M8 hfr T.frames hf t1 T.stays (T.base_none T.new) fun h2 a1 a2 a3 a4 => ?_
 refine Jy a1 a2 a3 fun h3 b1 b2 b3 b4 => ?_
 have T3 := T.next (h' := h3) (tk := s'.toks) t2 t3 b1 b2 (.inr b3) (a4.trans b4)
 refine CP (fun F3 st3 _ => ?_) <| T3.fm (hh ▸ F1) hf hfrk hzz F.lz hcz
 refine wpAny_handleBy_builtin_as PySem.F.isExc_ValueError EK PySem.F.self_ValueError (wpAny_Name (F3.load hx fun v V => ?_) (F.ok.names x kx (of_mem_zip hx.mem).1).2.1)
 refine TrF.exc (fun oe vs he hc hd h0 hv2 => ?_) b3
 refine ⟨ET V, ⟨oe, he, hc⟩, ?_⟩
 rw [if_pos rfl]
 refine Jy b1 b2 b3 fun h4 c1 c2 c3 c4 => ?_
 have T4 := T3.next (h' := h4) (tk := s'.toks) (t2.of_slots (a4.trans b4)) t3 c1 c2 (.inr c3) c4
 obtain ⟨F4, st4, o4, ho4⟩ := T4.fm (hh ▸ F1) hf hfrk hzz F.lz hcz
 refine TrF.exc (fun oe4 vs4 he4 hc4 hd4 h04 hv4 => ?_) c3
 refine Bv (fun ot nt ho hct hdt => ?_) <| (t2.of_slots (a4.trans b4)).of_slots c4
 have dead : ∀ b, sr.heap.get? b = none → b ∉ dz L1 Z := fun b hb hm => by
  rcases List.mem_append.mp hm with q | q
  ·refine Ao (fun o q => ?_) <| F1.hp.led_live q; rw [hb] at q; cases q
  ·refine Ao (fun o q => ?_) <| F1.hp.zone b (mem_append_right _ q); rw [hb] at q; cases q
 have VE : Aj (dz L1 Z) h4 (.exc "ValueError" msg) (.ref e) := by
  exact Exists.intro e ⟨oe4, vs4, t, ot, nt, u, rfl, ⟨he4, dead e T.new⟩, hc4, hd4, h04, ⟨ho, dead t t3⟩, hct, hdt⟩
 refine F4.store hn (.inl rfl) VE fun s5 F5 e5 => ?_
 have e4 : B9 env nm L L1 s { s' with heap := h4 } := by
  refine ⟨fun a o q n nl nc => ?_, fun g z q => by show s'.gens[g]? = some z; rw [T.gens]; exact e1.gens g z q, fun a o q => ?_⟩
  ·have h1 := e1.heap a o q n nl nc
   exact ⟨st4 a o h1.1 nl (fun hm => by rw [hz a hm] at q; cases q), h1.2⟩
  ·by_cases hq : a = env.locals
   ·exact ⟨o4, hq ▸ ho4⟩
   ·refine Ao (fun o' q' => ?_) <| e1.live a o q
    exact ⟨o', st4 a o' q' hq fun hm => by rw [hz a hm] at q; cases q⟩
 refine Ap (hs e Z s5 _ F5) fun f s6 h6 => ?_
 obtain ⟨pf, m6, L6, q6, F6, r6, e6⟩ := h6
 cases pf with
 | next =>
  refine Ar (fun m7 U q7 => ?_) <| q6
  rw [r6]
  refine F6.unheld.goes U fun s7 F7 e7 => ?_
  exact ⟨.next, m7, L6, q7, hh ▸ F7, rfl, ((e4.trans e5).trans e6).trans e7⟩
 | brk => exact q6.elim
 | cont => exact q6.elim
 | ret p => exact q6.elim
section
open PySem.SeqAt PySem.AutoSeq1 PySem.MeetsSeq PySem.MeetsSeq2 PySem.MeetsSeq3 PySem.SeqRoads2
theorem N6 (l b : Addr) (items items2 : Array Value) (e1 : items.size = 1) (e2 : items2.size = 1) (n n2 : Nat) : Meets (Builtin.«list.__eq__.loop» ⟨[.ref l, .ref b, rawInt 1, rawInt 0], []⟩)
   (fun A R s => s.heap.get? l = some { cls := .type "list", data := .seq items n } ∧ s.heap.get? b = some { cls := .type "list", data := .seq items2 n2 } ∧ R (.ok (.ret (.bool false))) s) := by
 intro prog w A R s h
 obtain ⟨hp, g, d, tk, os⟩ := s; refine CP (fun hl hb h => ?_) <| h
 wp_walk using wpAny_loadPart' hl, wpAny_loadPart' hb
 have hi1 : items[(1 : Int).toNat]? = none := by rw [Array.getElem?_eq_none]; rw [e1]; decide
 have hi2 : items2[(1 : Int).toNat]? = none := by rw [Array.getElem?_eq_none]; rw [e2]; decide
 rw [hi1, hi2]
 wp_walk using wpAny_loadPart' hl, wpAny_loadPart' hb
 show R (.ok (.ret (.bool (decide (items.size < items2.size))))) _
 rw [e1, e2]
 exact h
theorem M3 (l b : Addr) (items items2 : Array Value) (i j : Int) (t u : Tok) (e1 : items = #[.int i t]) (e2 : items2 = #[.int j u]) (n n2 : Nat) : Meets (Builtin.«list.__eq__.loop» ⟨[.ref l, .ref b, rawInt 0, rawInt 0], []⟩)
   (fun A R s => s.heap.get? l = some { cls := .type "list", data := .seq items n } ∧ s.heap.get? b = some { cls := .type "list", data := .seq items2 n2 } ∧ R (.ok (.ret (.bool (decide (i < j))))) s) := by
 intro prog w A R s h
 obtain ⟨hp, g, d, tk, os⟩ := s; refine CP (fun hl hb h => ?_) <| h
 wp_walk using wpAny_loadPart' hl, wpAny_loadPart' hb
 have hi1 : items[(0 : Int).toNat]? = some (.int i t) := by rw [e1]; rfl
 have hi2 : items2[(0 : Int).toNat]? = some (.int j u) := by rw [e2]; rfl
 rw [hi1, hi2]
 refine wpAny_bind (EqAt.int_int i t j u prog w _ _ ?_)
 cases hb' : i == j with
 | true =>
  have : i = j := by simpa using hb'
  wp_walk
  exact ⟨plainId_quiet plain_eq_loop _, codeAny_builtin entry_eq_loop (by
   rw [Around.under_plainId plain_eq_loop _]
   exact N6 l b _ _ (by rw [e1]; rfl) (by rw [e2]; rfl) n n2 prog w A R _ ⟨hl, hb, by rw [this] at h; simpa using h⟩)⟩
 | false =>
  wp_walk using wpAny_loadPart' hl, wpAny_loadPart' hb
  rw [hi1, hi2]
  show wpAny _ _ (do ret (← richCompare .Lt (.int i t) (.int j u))) _ _ _
  refine wpAny_bind ?_
  exact PySem.P.lt_int (wpAny_pure h)
theorem M0 (l b : Addr) (items items2 : Array Value) (i j : Int) (t u : Tok) (e1 : items = #[.int i t]) (e2 : items2 = #[.int j u]) (n n2 : Nat) : Meets (Builtin.«list.__lt__» ⟨[.ref l, .ref b], []⟩)
   (fun A R s => s.heap.get? l = some { cls := .type "list", data := .seq items n } ∧ s.heap.get? b = some { cls := .type "list", data := .seq items2 n2 } ∧ R (.ok (.ret (.bool (decide (i < j))))) s) := by
 intro prog w A R s h
 obtain ⟨hp, g, d, tk, os⟩ := s; refine CP (fun hl hb h => ?_) <| h
 have f3 := AutoSeq1.sub_list_list
 wp_walk using wpAny_loadPart' hl, wpAny_loadPart' hb
 exact ⟨plainId_quiet plain_eq_loop _, codeAny_builtin entry_eq_loop (by
  rw [Around.under_plainId plain_eq_loop _]
  exact M3 l b items items2 i j t u e1 e2 n n2 prog w A R _ ⟨hl, hb, h⟩)⟩
theorem Qh {i j : Int} (l : LV L p [.int i]) (l' : LV L q [.int j]) (hu : A.units < cLine) (h : Q (.bool (decide (i < j))) L) : CR X A (compareOp .Lt) p q L Q := fun Z s E u v P Va Vb => by
 apply l.el P Va; intro a vs n ho r
 apply l'.el P Vb; intro b ws n2 hb r2
 obtain ⟨x, vs, rfl, Vx, r⟩ := r.cons_inv
 obtain ⟨y, ws, rfl, Vy, r2⟩ := r2.cons_inv
 rw [r.nil_inv] at ho
 rw [r2.nil_inv] at hb
 refine Ao (fun t e₀1 => ?_) <| FH Vx; obtain rfl := e₀1
 refine Ao (fun t' e₀1 => ?_) <| FH Vy; obtain rfl := e₀1
 show wpAny _ _ (richCompare .Lt (.ref a) (.ref b)) _ _ _
 exact richCompare_meets_room (op := .Lt) ⟨_, ho, rfl⟩ ⟨_, hb, rfl⟩ F.slot_list_lt F.entry_list_lt (F.args_list_lt_2 _ _) (M0 a b _ _ i j t t' rfl rfl n n2) ⟨ho, hb, ⟨(fun x => nomatch x), .keeps P (Ag s) (Bc _) h⟩⟩ hu
theorem LS {i j : Int} (l : LV L p [.int i]) (l' : LV L q [.int j]) (hu : A.units < cLine) (ht : i < j → Qt L) (hf : ¬ i < j → Qf L) : Bu X A .Lt p q L Qt Qf :=
 Cc (b := decide (i < j)) (fun h => Qh l l' hu h) (fun h => ht (by simpa using h)) fun h => hf (by simpa using h)
theorem NL (hu : A.units + 2 < cLine) (hz : msg.length ≤ sizeLine) (h : Q (.str msg) L) : As X A (.val (.type "str")) [.exc "ValueError" msg] [] L Q := fun Z s E fv vs kvs P Vf Vs Ks => by
 apply AI Vf
 apply Vs.cons_el; intro v r V y
 apply y.nil_el
 cases Ks
 obtain ⟨a, o, ws, t, ot, n, u, rfl, ho, hc, hd, h0, ht, hct, hdt⟩ := V
 refine PySem.P.str_of_exc_one PySem.F.excStr_ValueError hu ⟨o, ws, ho.1, hc, hd, h0⟩ ⟨ot, n, ht.1, hct, hdt⟩ (.keeps P (Ag s) ?_ h)
 exact DO ⟨msg.toArray⟩ u (by simpa [Str.length] using hz)
end
section
open PySem.SeqAt PySem.AutoSeq1 PySem.MeetsSeq PySem.MeetsSeq2 PySem.MeetsSeq3 PySem.SeqRoads2
theorem ND {M : Model} {x : α} {Q : α → Shared → Prop} (h : ∀ a, Q a s) : wpAny M A (pure x) Q E s := wpAny_pure (h x)
theorem I8 (l : Addr) (items : Array Value) (n : Nat) :
  Meets (Builtin.«enumerate.__new__» ⟨[.type "enumerate", .ref l], []⟩) (fun _ R s => s.heap.get? l = some { cls := .type "tuple", data := .seq items n } ∧
   R (.ok (.ret (.ref (s.heap.push { cls := .type "tuple_iterator", data := .fields #[.ref l, .int 0 0] }).objs.size)))
    { s with heap := (s.heap.push { cls := .type "tuple_iterator", data := .fields #[.ref l, .int 0 0] }).push { cls := .type "enumerate", data := .fields #[.none, .bool false, .ref s.heap.objs.size, rawInt 0, .none, .none] } }) :=
 .of_wp fun prog w A R s h => by
  obtain ⟨hp, g, d, tk, os⟩ := s; refine Av (fun hl h => ?_) <| h
  have hsub := sub_enumerate
  have hL : Heap.IsTuple (Shared.heap ⟨hp, g, d, tk, os⟩) l items := ⟨_, hl, rfl, n, rfl⟩
  wp_walk using wpAny_loadPart' hl
  refine wpAny_stack_any fun st => ND fun c => ?_
  cases c
  ·wp_walk using wpAny_loadPart' hl, wpAny_pyIter_tuple hL
   exact ⟨_, rfl, h⟩
  ·wp_walk using wpAny_loadPart' hl, wpAny_pyIter_tuple hL
   exact ⟨_, rfl, h⟩
theorem FA {l : Addr} {items : Array Value} {Q : QV} (hl : s.heap.get? l = some { cls := .type "tuple", data := .seq items n })
  (h : ∀ h', IsEnum h' (s.heap.objs.size + 1) s.heap.objs.size 0 .none → h'.IsTupleIter s.heap.objs.size l 0 → h'.objs.size = s.heap.objs.size + 2 →
   (∀ b o, s.heap.get? b = some o → h'.get? b = some o) → Q (.ref (s.heap.objs.size + 1)) { s with heap := h' }) :
  wpAny (model prog w) A (call (.type "enumerate") [.ref l]) Q E s := by
 refine callType_new F.called_enumerate (by decide) (F.typeCall_enumerate_1 _) (F.newCall_enumerate_1 _) (fun obj => F.args_object_init_2 obj _) F.entry_enumerate_new
  (I8 l items n) ⟨hl, ?_⟩
 have hz : (s.heap.push { cls := .type "tuple_iterator", data := .fields #[.ref l, .int 0 0] }).objs.size = s.heap.objs.size + 1 := size_push ..
 show _ ∧ _
 rw [hz]
 have he : IsEnum ((s.heap.push { cls := .type "tuple_iterator", data := .fields #[.ref l, .int 0 0] }).push
   { cls := .type "enumerate", data := .fields #[.none, .bool false, .ref s.heap.objs.size, rawInt 0, .none, .none] }) (s.heap.objs.size + 1) s.heap.objs.size 0 .none := by
  have := get?_push_size (s.heap.push { cls := .type "tuple_iterator", data := .fields #[.ref l, .int 0 0] })
   (o := { cls := .type "enumerate", data := .fields #[.none, .bool false, .ref s.heap.objs.size, rawInt 0, .none, .none] }) rfl
  rw [hz] at this; exact this
 refine ⟨⟨_, he, rfl⟩, h _ he ⟨_, get?_push_of_some _ (get?_push_size _ rfl), rfl, rfl⟩ (by rw [size_push, hz]) fun b o x => get?_push_of_some _ (get?_push_of_some _ x)⟩
theorem Iv (hh : A.handled = none) (it l : Addr) (hne : l ≠ it) (items : Array Value) (n : Nat) :
  Draws prog w A it [it, l] items.size (fun i v => items[i]? = some v) (fun i h => h.IsTupleIter it l i ∧ h.get? l = some { cls := .type "tuple", data := .seq items n }) where
 live := fun _ _ st => let ⟨o, ho, _⟩ := st.1; ⟨o, ho⟩
 frame := fun _ _ _ st hk => by
  refine Av (fun o₀0 hl => ?_) <| st; obtain ⟨o, ho, r⟩ := o₀0
  exact ⟨⟨o, hk it (by simp) o ho, r⟩, hk l (by simp) _ hl⟩
 item := fun i s Q E hi st hQ => by
  refine Av (fun o₀0 hl => ?_) <| id st; obtain ⟨o, ho, hc, hdt⟩ := o₀0
  have hI : s.TypeIs (.ref it) "tuple_iterator" := ⟨o, ho, hc⟩
  unfold Builtin.SmallTypes.nextOf
  refine wpAny_bind (wpAny_callSpecial?_slot (name := ofString "__next__") hI F.slot_tuple_iterator_next (wpAny_call_entry F.slot_tuple_iterator_next hI F.entry_tuple_iterator_next ?_ (F.args_tuple_iterator_next_1 _)))
  show wpAny _ _ (field (.ref it) 0 >>= _) _ _ s
  refine wpAny_bind (wpAny_field ho hdt (x := .ref l) rfl ?_)
  show wpAny _ _ (if (Value.ref l == Value.none) = true then _ else _) _ _ s
  rw [if_neg (show ¬ ((Value.ref l == Value.none) = true) from Bool.false_ne_true)]
  show wpAny _ _ (field (.ref it) 1 >>= _) _ _ s
  refine wpAny_bind (wpAny_field ho hdt (x := .int i 0) rfl ?_)
  show wpAny _ _ (seqItems? (.ref l) >>= _) _ _ s
  refine wpAny_bind (wpAny_seqItems hl rfl ?_)
  have hx' : items[i]? = some items[i] := by simp [hi]
  simp only [toNat_natCast, hx']
  refine wpAny_bind (wpAny_setField ho hdt (by simp) (wpAny_pure ⟨_, rfl, wpAny_pure ?_⟩))
  have hd' := Obj.data_mapFields hdt (·.setIfInBounds 1 (rawInt ((i : Int) + 1)))
  refine hQ _ _ s.toks hx' ⟨⟨_, get?_update_self _ ho (Obj.isFreed_of_fields hd'), (Obj.cls_mapFields _ _).trans hc, by rw [hd']; simp [rawInt]⟩, ?_⟩ (Heap.SameBut.update ..)
  exact (get?_update_other _ _ (Ne.symm hne)).trans hl
 done := fun s Q E st hE => by
  refine Av (fun o₀0 hl => ?_) <| id st; obtain ⟨o, ho, hc, hdt⟩ := o₀0
  have hI : s.TypeIs (.ref it) "tuple_iterator" := ⟨o, ho, hc⟩
  unfold Builtin.SmallTypes.nextOf
  refine wpAny_bind (wpAny_callSpecial?_slot (name := ofString "__next__") hI F.slot_tuple_iterator_next (wpAny_call_entry F.slot_tuple_iterator_next hI F.entry_tuple_iterator_next ?_ (F.args_tuple_iterator_next_1 _)))
  show wpAny _ _ (field (.ref it) 0 >>= _) _ _ s
  refine wpAny_bind (wpAny_field ho hdt (x := .ref l) rfl ?_)
  show wpAny _ _ (if (Value.ref l == Value.none) = true then _ else _) _ _ s
  rw [if_neg (show ¬ ((Value.ref l == Value.none) = true) from Bool.false_ne_true)]
  show wpAny _ _ (field (.ref it) 1 >>= _) _ _ s
  refine wpAny_bind (wpAny_field ho hdt (x := .int items.size 0) rfl ?_)
  show wpAny _ _ (seqItems? (.ref l) >>= _) _ _ s
  refine wpAny_bind (wpAny_seqItems hl rfl ?_)
  have hx' : items[items.size]? = none := by simp
  simp only [toNat_natCast, hx']
  refine wpAny_bind (wpAny_rule (wpAny_bind (wpAny_setField ho hdt (by simp) ?_)))
  refine Ec (D := []) (by rw [show A.in1.handled = none from hh]; trivial) fun h' e hk _ hcls => ?_
  exact hE h' e (fun b o hb hbo => hk b o ((get?_update_other _ _ (Ne.symm hb)).trans hbo)) hcls
section
variable {e : Addr}
theorem Ei.enum_tup {l : Addr} (hne : e ≠ it) (hle : l ≠ e) (hlt : l ≠ it) :
  Ei X none d Bx e [e, it] [] (BT ps) (fun _ => True) (fun i D s => (∃ old, IsEnum s.heap e it (i : Nat) old) ∧ s.heap.IsTupleIter it l i ∧ Aj D s.heap (.tup ps) (.ref l)) where
 mono := fun i D D' s s' st kp hw _ => by
  refine CP (fun o₀0 o₀1 V => ?_) <| st; obtain ⟨old, he⟩ := o₀0; obtain ⟨o, ho, r⟩ := o₀1
  exact ⟨⟨old, hw e (by simp) _ he⟩, ⟨o, hw it (by simp) o ho, r⟩, V.kp kp⟩
 item := fun A i q Z L s E E' target R hA hd ht hp ok P hw st h => by
  refine CP (fun o₀0 hit V => ?_) <| st; obtain ⟨old, he⟩ := o₀0
  refine Ar (fun q hq e₀2 => ?_) <| Bl hp; obtain rfl := e₀2
  have P' := hA ▸ P
  refine BZ (fun a vs n ea o₀4 rl => ?_) <| FO V; obtain ⟨hL, _⟩ := o₀4
  cases ea
  refine Ar (fun x hx Vx => ?_) <| rl.get hq
  have hlt' : i < vs.toArray.size := by
   rcases lt_or_ge i vs.length with y | y
   ·simpa using y
   ·rw [getElem?_eq_none y] at hx; cases hx
  refine DU hne (Iv (A := A.in1) hA it l hlt vs.toArray n) he ⟨hit, hL⟩ hlt' (by simp [hne, Ne.symm hle]) hw ht P' (q := q) (fun y hy => ?_) fun v s' a1 a2 a3 a4 a5 a6 => ?_
  ·have : x = y := by
    have hx' : vs.toArray[i]? = some x := by simpa using hx
    rw [hx'] at hy; cases hy; rfl
   exact this ▸ Vx
  ·exact h v s' a1 (hA ▸ a2) ⟨a3, a4.1, V.kp a5⟩ a6
 done := fun A Z L s E R hA hd ok P hw st h => by
  rw [Cd] at st
  refine CP (fun o₀0 hit V => ?_) <| st; obtain ⟨old, he⟩ := o₀0
  exact DT (Eh.tuple (X := X) (H := none) (d := (d.1, d.2 + 1)) (ps := ps) (l := l)) hA (CB hd) he ⟨hit, V⟩ ok (fun b hb => hw b (by first | exact .tail _ hb | (simp at hb; simp [hb]))) P fun s' P' N => h s' P' (N.sub (fun b hb => by first | exact .tail _ hb | (simp at hb; simp [hb])) fun _ hb => hb)
 self := fun A i D s E R st hR => let ⟨⟨old, he⟩, _⟩ := st; wpAny_pyIter_enum he hR
end
theorem KD {Q : List PV → (Ai → Prop) → Ai → Prop} (hh : A.handled = none) (h : Q (BT ps) (fun _ => True) L) : Fi X A Bx (.val (.type "enumerate")) [.tup ps] L Q := fun Z s E fv vs P Vf Vs => by
 apply AI Vf
 apply Vs.cons_el; intro v r V y
 apply y.nil_el
 have V₀ := V; revert V₀; apply Dd V; intro l vs n ho₁ ho₂ rl V; have ho := And.intro ho₁ ho₂
 have hl := lt_size ho.1
 refine FA ho.1 fun h' he hit hsz hk => ?_
 have k : Keeps s { s with heap := h' } := ⟨h', s.toks, rfl, hk⟩
 refine ⟨_, _, L, h, fun A' E R hA hd hc => ?_⟩
 refine wpAny_pyIter_enum he ?_
 obtain ⟨P', kp⟩ := P.grow (Z' := [s.heap.objs.size + 1, s.heap.objs.size]) k fun a ha => by
  revert a ha; refine Ev ?_ ?_
  ·exact ⟨le_succ _, _, he⟩
  ·exact ⟨le_refl _, let ⟨o, e, _⟩ := hit; ⟨o, e⟩⟩
 refine hc _ [s.heap.objs.size + 1, s.heap.objs.size] [] _ _ (hh ▸ (Ei.enum_tup (d := dd A) (ps := ps) (l := l) (Nat.succ_ne_self _) (ne_of_lt (lt_succ_of_lt hl)) (ne_of_lt hl)).dyn) ⟨rfl, ⟨_, he⟩, hit, V.kp kp⟩ P' (.keeps k) (fun b hb => ?_) fun g hg => by cases hg
 revert b hb; refine Ev ?_ ?_
 ·exact Ac _ (le_succ _)
 ·exact Ac _ (le_refl _)
end
structure LG (X : Cx) (I S : Addr) (gn : List Nat) (ps0 ps : List PV) (St : Nat → List Addr → List Addr → Shared → Prop) (Z : List Addr) (L : Ai) (W : List Addr) (s0 : Shared) (i : Nat) (s : Shared) : Prop where
 ex : ∃ Zc pv acc c, Hp X none Zc L s ∧ S ∈ Zc ∧ (∀ b ∈ Z, b ∈ Zc) ∧ (∀ b ∈ pv, b ∈ Zc) ∧ S ∉ pv ∧ (∀ b ∈ pv, b ∈ W ∨ s0.heap.get? b = none) ∧ St i pv (dz L Zc) s ∧ s.heap.get? S = some (Bh acc c) ∧ Ae (dz L Zc) s.heap (ps0 ++ ps.take i) acc
 kept : ∀ b o, b ∉ W → s0.heap.get? b = some o → s.heap.get? b = some o
 gens : ∀ (g : Nat) (x : GenState), g ∉ gn → s0.gens[g]? = some x → s.gens[g]? = some x
section
variable {S : Addr} {ps0 : List PV} {Ok : Ai → Prop} {St : Nat → List Addr → List Addr → Shared → Prop} {W : List Addr}
theorem Ju (P : Hp X none Zc L s) (hS : S ∈ Zc) (hs : Heap.SameBut S s.heap h') (ho : ∃ o, h'.get? S = some o) : Hp X none Zc L { s with heap := h' } ∧ Kp (dz L Zc) (dz L Zc) s.heap h' := P.write (tk := s.toks) hS hs ho
theorem EI (T : DB X none d tg I gn ps Ok St) (htg : ∀ x pos, tg (.Name x pos)) (hA : A.handled = none) (hd : Dy A.in1 d) (ok : Ok L) (hz : ps0.length + ps.length ≤ sizeLine) (hSW : S ∈ W ∨ s0.heap.get? S = none) (res : Value) {R : Result → Shared → Prop} :
  ∀ (k i : Nat) (s : Shared), ps.length - i = k → i ≤ ps.length → LG X I S gn ps0 ps St Z L W s0 i s →
  (∀ s', (∃ Zc acc c, Hp X none Zc L s' ∧ S ∈ Zc ∧ (∀ b ∈ Z, b ∈ Zc) ∧ s'.heap.get? S = some (Bh acc c) ∧ Ae (dz L Zc) s'.heap (ps0 ++ ps) acc) → (∀ b o, b ∉ W → s0.heap.get? b = some o → s'.heap.get? b = some o) → (∀ (g : Nat) (x : GenState), g ∉ gn → s0.gens[g]? = some x → s'.gens[g]? = some x) → R (.ok (.ret res)) s') →
  codeAny X.M A (.builtin "list.extend.loop" ⟨[.ref S, .ref I, res], []⟩) R s := by
 intro k
 induction k with
 | zero =>
  intro i s hk hi G hR
  obtain ⟨⟨Zc, pv, acc, c, P, h1, h2, h3, h4, h5, st, hS, V⟩, kept, gens⟩ := G
  have hin : i = ps.length := by exact Ez 0x5244a4a0028008810422 rt hk (sub_add_cancel (Aa 0x94012800421 rt hi))
  subst hin
  refine codeAny_builtin F.entry_extend_loop ?_
  rw [Around.under_plainId F.plain_extend_loop _]
  show wpAny _ A.in1 (pyNext (.ref I) >>= _) _ _ s
  refine wpAny_bind (T.done A.in1 pv Zc L s _ _ hA hd ok P h3 st fun s' P' N => ?_)
  rw [take_length] at V
  have kp := N.kp (L := L) (Z := Zc) h3
  exact wpAny_pure (hR s' ⟨Zc, acc, c, P', h1, h2, N.1 S _ h4 hS, V.kp kp⟩ (fun b o w q => N.1 b o (fun hm => (h5 b hm).elim w fun r => by rw [r] at q; cases q) (kept b o w q)) fun g x w q => N.2 g x w (gens g x w q))
 | succ k ih =>
  intro i s hk hi G hR
  obtain ⟨⟨Zc, pv, acc, c, P, h1, h2, h3, h4, h5, st, hS, V⟩, kept, gens⟩ := G
  have hlt : i < ps.length := by exact B7 0x16a0ad48008212240814022 rt hk (sub_add_cancel (Aa 0x94012800421 rt hi))
  have hacc : acc.length = ps0.length + i := by rw [V.length, length_append, length_take, min_eq_left hi]
  refine codeAny_builtin F.entry_extend_loop ?_
  rw [Around.under_plainId F.plain_extend_loop _]
  show wpAny _ A.in1 (pyNext (.ref I) >>= _) _ _ s
  refine wpAny_bind (Ap (T.item A.in1 i ps[i] pv Zc L s _ (fun e s' => R (.error e) s') (.Name (ofString "x") default) (fun v s' => wpAny X.M A.in1 (updateSeq S (·.push v) >>= fun _ => again (.builtin "list.extend.loop" ⟨[.ref S, .ref I, res], []⟩)) (fun fin s' => match fin with | .done f => R (.ok f) s' | .again c' => c'.quiet = true ∧ codeAny X.M A c' R s') (fun e s' => R (.error e) s') s')
   hA hd (htg _ _) (getElem?_eq_getElem hlt) ok P h3 st fun v s' Zn pv' V' P' st' hpv hzn N => ?_) fun r s' ⟨v, hr, hw⟩ => by subst hr; exact wpAny_bind (m := letOwnedTupleGo (.Name (ofString "x") default) (.ref I) v) hw)
  have hS' := N.1 S _ h4 hS
  have dead : ∀ b ∈ Zn, b ∈ W ∨ s0.heap.get? b = none := fun b hb => by
   by_cases w : b ∈ W
   ·exact .inl w
   ·refine .inr ?_
    cases q : s0.heap.get? b with
    | none => rfl
    | some o => have := kept b o w q; rw [hzn b hb] at this; cases this
  have hSz : S ∈ Zn ++ Zc := mem_append_right _ h1
  have kp1 : Kp (dz L Zc) (dz L (Zn ++ Zc)) s.heap s'.heap := fun b o q n => ⟨N.1 b o (fun hm => n (mem_append_right _ (h3 b hm))) q, fun hm => by
   rcases List.mem_append.mp hm with r | r
   ·exact n (mem_append_left _ r)
   ·rcases List.mem_append.mp r with r | r
    ·rw [hzn b r] at q; cases q
    ·exact n (mem_append_right _ r)⟩
  refine wpAny_bind ?_
  refine wpAny_updateSeq hS' rfl ?_ (by rw [size_toArray, hacc]; exact B7 0xa5a0004ac015250000422 rt hz hi) (by rw [Array.size_push, size_toArray, hacc]; exact B7 0x48a0048b400004ac015250000422 rt hz hi)
  refine Ao (fun n' hn' => ?_) <| HW (f := (·.push v)) hS'
  refine Av (fun P2 kp2 => ?_) <| Ju P' hSz (Heap.SameBut.update ..) ⟨_, hn'⟩
  have oth : ∀ b o, b ≠ S → s'.heap.get? b = some o → (s'.heap.update S (Obj.mapSeq (·.push v))).get? b = some o := fun b o hb q => (get?_update_other _ _ (Ne.symm hb)).trans q
  have hSpv : S ∉ pv' := fun hm => (hpv S hm).elim h4 fun q => by
   rw [hzn S q] at hS; cases hS
  refine wpAny_pure ⟨plainId_quiet F.plain_extend_loop _, ih (i + 1) _ (by exact q50 0x254262d001058122c0a00a012240814023 rt hk (sub_add_cancel (Aa 0x484880012808421 rt hlt)) (sub_add_cancel (Aa 0x94012800421 rt hi))) hlt ⟨⟨Zn ++ Zc, pv', acc ++ [v], n', P2, hSz, fun b hb => mem_append_right _ (h2 b hb), fun b hb => (hpv b hb).elim (fun q => mem_append_right _ (h3 b q)) (mem_append_left _), hSpv, fun b hb => (hpv b hb).elim (h5 b) (dead b), ?_, ?_, ?_⟩, fun b o w q => ?_, fun g x w q => ?_⟩ hR⟩
  ·exact T.mono (i + 1) pv' _ _ s' _ st' kp2 (fun b hb o q => oth b o (fun r => hSpv (r ▸ hb)) q) fun _ _ q => q
  ·simpa using hn'
  ·have e : ps.take (i + 1) = ps.take i ++ [ps[i]] := by rw [take_add_one]; simp [hlt]
   rw [e, ← append_assoc]
   exact (((V.kp kp1).append (.cons V' .nil)).kp kp2)
  ·refine oth b o (fun r => ?_) (N.1 b o (fun hm => (h5 b hm).elim w fun r => by rw [r] at q; cases q) (kept b o w q))
   rw [r] at q w; exact hSW.elim w fun z => by rw [z] at q; cases q
  ·exact N.2 g x w (gens g x w q)
theorem HG (T : DB X none d tg I gn ps Ok St) (htg : ∀ x pos, tg (.Name x pos)) (hA : A.handled = none) (hd : Dy A.in1.in1 d) (ok : Ok L) (hz : ps.length ≤ sizeLine)
  (hT : s.TypeIs (.ref I) "generator") (hI : I ∈ wr) (st : St 0 wr (dz L (wr ++ Z)) s) (P : Hp X none (wr ++ Z) L s) (e0 : BF L₀ L s₀ s) (hZ : ∀ b ∈ Z, ∃ o, s₀.heap.get? b = some o) (hw : ∀ a ∈ wr, s₀.heap.get? a = none) (hg : ∀ g ∈ gn, s₀.gens[g]? = none) (h : ∀ a, Q (.ref a) ((a, .list ps) :: L)) :
  wpAny X.M A (call (.type "list") [.ref I]) (Be X none Z L₀ s₀ Q) E s := by
 generalize hS : s.heap.objs.size = S
 have hSn : s.heap.get? S = none := Ac _ (le_of_eq hS)
 refine callType_codes (Q₁ := fun obj s₁ => obj = .ref s.heap.objs.size ∧ s₁ = { s with heap := s.heap.push { cls := .type "list", data := .seq #[] } }) F.called_list (F.typeCall_list_1 _) F.entry_list_init
  (code_list_new _ ⟨rfl, rfl⟩) fun obj s₁ h₁ => ?_
 refine Av (fun e₀0 e₀1 => ?_) <| h₁; obtain rfl := e₀0; obtain rfl := e₀1
 have hl1 : (s.heap.push { cls := .type "list", data := .seq #[] }).get? s.heap.objs.size = some { cls := .type "list", data := .seq #[] } := get?_push_size _ rfl
 refine ⟨⟨_, hl1, rfl⟩, F.args_list_init_2 _ _, ?_⟩
 rw [hS] at hl1 ⊢
 have hSI : S ≠ I := fun e => by
  refine Ar (fun o ho _ => ?_) <| hT
  rw [← e, hSn] at ho; cases ho
 generalize hs1 : ({ s with heap := s.heap.push { cls := .type "list", data := .seq #[] } } : Shared) = s1
 have hl1' : s1.heap.get? S = some { cls := .type "list", data := .seq #[] } := by rw [← hs1]; exact hl1
 have k1 : Keeps s s1 := by rw [← hs1]; exact ⟨_, s.toks, rfl, fun _ _ e => get?_push_of_some _ e⟩
 obtain ⟨P1, kp1⟩ := P.grow (Z' := [S]) k1 (Lz ⟨le_of_eq hS, _, hl1'⟩)
 show wpAny _ A.in1.in1 (do let old ← Builtin.List.listItems (.ref S); Builtin.List.listUpdate (.ref S) (fun _ => #[]); letGo old.toList.reverse; Builtin.List.listExtendWith (.ref S) (.ref I) .none) _ _ s1
 refine wpAny_bind ?_
 unfold Builtin.List.listItems
 refine wpAny_bind (wpAny_seqItems hl1' rfl (wpAny_pure ?_))
 show wpAny _ A.in1.in1 (updateSeq S (fun _ => #[]) >>= fun _ => letGo (#[] : Array Value).toList.reverse >>= fun _ => Builtin.List.listExtendWith (.ref S) (.ref I) .none) _ _ s1
 refine wpAny_bind (wpAny_updateSeq hl1' rfl ?_)
 have hS₂ := get?_update_self (Obj.mapSeq (fun _ => (#[] : Array Value))) hl1' rfl
 refine wpAny_bind (wpAny_letGo ?_)
 have hT2 : Shared.TypeIs { s1 with heap := s1.heap.update S (Obj.mapSeq (fun _ => (#[] : Array Value))) } (.ref I) "generator" := by
  refine Ar (fun o ho hc => ?_) <| hT
  refine B8 (fun h1 tk e₀2 hk => ?_) <| k1; obtain rfl := e₀2
  exact ⟨o, (get?_update_other _ _ hSI).trans (hk _ _ ho), hc⟩
 unfold Builtin.List.listExtendWith
 refine wpAny_bind (wpAny_typeOf hT2 ?_)
 have h1 : Builtin.List.listSameRef (.ref S) (.ref I) = false := by simp [Builtin.List.listSameRef, hSI]
 have h2 : (Value.type "generator" == Value.type "list") = false := by decide
 have h3 : (Value.type "generator" == Value.type "tuple") = false := by decide
 simp only [h1, h2, h3, Bool.or_false, false_eq_true, if_false]
 have stF : ∀ h' : Heap, Heap.SameBut S s1.heap h' → (∃ o, h'.get? S = some o) → St 0 wr (dz L ([S] ++ (wr ++ Z))) { s1 with heap := h' } := fun h' hs ho => by
  refine T.mono 0 wr _ _ s _ st ?_ (fun b hb o q => ?_) (fun g x q => ?_)
  ·exact kp1.trans (Ju P1 (.head _) hs ho).2
  ·have hbs : b ≠ S := fun e => by rw [e, hSn] at q; cases q
   refine (hs.2 b hbs).trans ?_
   refine B8 (fun h1 tk e₀2 hk => ?_) <| k1; obtain rfl := e₀2
   exact hk b o q
  ·rw [← hs1]; exact q
 refine wpAny_bind (T.self _ 0 wr _ _ _ _ (stF _ (Heap.SameBut.update ..) ⟨_, hS₂⟩) ?_)
 refine wpAny_bind (wpAny_holding ?_)
 unfold Builtin.List.listLengthHint
 refine wpAny_bind (wpAny_specialOf hT2 F.gen_no_len ?_)
 show wpAny _ A.in1.in1 (specialOf (Value.ref I) (ofString "__length_hint__") >>= _) _ _ _
 refine wpAny_bind (wpAny_specialOf hT2 F.gen_no_hint ?_)
 refine wpAny_pure ?_
 show wpAny _ A.in1.in1 (rule "list.extend.makes-room" >>= fun _ => Builtin.List.listTouch (.ref S) >>= fun _ =>
  again (.builtin "list.extend.loop" ⟨[.ref S, .ref I, .none], []⟩)) _ _ _
 refine wpAny_bind (wpAny_rule ?_)
 refine wpAny_bind ?_
 show wpAny _ A.in1.in1 (updateSeq S (·.push .none) >>= fun _ => updateSeq S (·.pop)) _ _ _
 refine wpAny_bind (wpAny_updateSeq hS₂ rfl ?_)
 have hS₃ := get?_update_self (Obj.mapSeq (·.push Value.none)) hS₂ rfl
 refine wpAny_updateSeq (hz := by seq_fits) hS₃ rfl ?_
 have hS₄ := get?_update_self (Obj.mapSeq (·.pop)) hS₃ rfl
 generalize hh5 : (((s1.heap.update S (Obj.mapSeq (fun _ => (#[] : Array Value)))).update S (Obj.mapSeq (·.push Value.none))).update S (Obj.mapSeq (·.pop))) = h5 at hS₄
 have sb : Heap.SameBut S s1.heap h5 := by rw [← hh5]; exact ((Heap.SameBut.update ..).trans (Heap.SameBut.update ..)).trans (Heap.SameBut.update ..)
 refine Av (fun P5 kp5 => ?_) <| Ju P1 (.head _) sb ⟨_, hS₄⟩
 have live : ∀ b o, s₀.heap.get? b = some o → ∃ o', s.heap.get? b = some o' := e0.live
 have hS0 : s₀.heap.get? S = none := FG e0.live hSn
 have hSwr : S ∉ wr := fun hm => by
  refine Ao (fun o q => ?_) <| P.zone S (mem_append_left _ hm); rw [hSn] at q; cases q
 refine wpAny_pure ⟨plainId_quiet F.plain_extend_loop _, EI (A := A.in1) (Z := Z) (W := wr) (s0 := s) T htg hA hd ok (ps0 := []) (by simpa using hz) (.inr hSn) .none ps.length 0 _ (by exact GH 0x4a0490110014021 rt (sub_add_cancel (Aq 268566560 rt))) (zero_le _)
  ⟨⟨[S] ++ (wr ++ Z), wr, [], _, P5, .head _, fun b hb => by simp [hb], fun b hb => by simp [hb], hSwr, fun b hb => .inl hb, stF h5 sb ⟨_, hS₄⟩, hS₄, .nil⟩, fun b o w q => ?_, fun g x w q => by rw [← hs1]; exact q⟩ ?_⟩
 ·have hbs : b ≠ S := fun e => by rw [e, hSn] at q; cases q
  refine (sb.2 b hbs).trans ?_
  refine B8 (fun h1 tk e₀2 hk => ?_) <| k1; obtain rfl := e₀2
  exact hk b o q
 ·rintro s' ⟨Zc, acc, c, P', hSc, hZc, hl', V'⟩ kept gens
  have sub : ∀ b, b ∈ dz ((S, AO.list ps) :: L) Z → b ∈ dz L Zc := fun b hb => by
   rcases List.mem_append.mp hb with q | q
   ·rcases List.mem_cons.mp q with r | r
    ·rw [r]; exact mem_append_right _ hSc
    ·exact mem_append_left _ r
   ·exact mem_append_right _ (hZc b q)
  have hSL : S ∉ dom L := fun hm => P'.apart S hm hSc
  have hSZ : S ∉ Z := fun hm => by refine Ao (fun o q => ?_) <| hZ S hm; rw [hS0] at q; cases q
  have nw : ∀ a o, s₀.heap.get? a = some o → a ∉ wr := fun a o q hm => by rw [hw a hm] at q; cases q
  refine ⟨rfl, .ref S, (S, .list ps) :: L, h S, ⟨P'.keep, P'.os, P'.bare, fun x hx => ?_, List.nodup_cons.mpr ⟨hSL, P'.nodup⟩, fun a ha => P'.fresh a (sub a ha), fun a ha hm => ?_, fun a ha => P'.zone a (hZc a ha), trivial⟩, E3 S, fun a o q n => ?_, fun g x q => ?_, fun a o q => ?_⟩
  ·rcases List.mem_cons.mp hx with rfl | hx
   ·exact ⟨acc, c, hl', V'.kp (AP sub)⟩
   ·exact BP.kp (AP sub) (fun _ e => e) (P'.led x hx)
  ·rcases List.mem_cons.mp ha with r | r
   ·rw [r] at hm; exact hSZ hm
   ·exact P'.apart a r (hZc a hm)
  ·have h1 := e0.heap a o q n
   refine ⟨kept a o (nw a o q) h1.1, fun hm => ?_⟩
   rcases List.mem_cons.mp hm with r | r
   ·rw [r, hS0] at q; cases q
   ·exact h1.2 r
  ·exact gens g x (fun hm => by rw [hg g hm] at q; cases q) (e0.gens g x q)
  ·refine Ao (fun o' q' => ?_) <| e0.live a o q
   exact ⟨o', kept a o' (nw a o q) q'⟩
theorem JF {f : Str} {p1 p2 : Pos} {g : PySem.Expr} (hA : A.handled = none) (hz : ps.length ≤ sizeLine) (hd : Dy A.in1.in1 d) (hN : Lk nm m f kf (.val (.type "list")))
  (h : WE X A env nm m (eval g env) L fun pf L1 => Bw X pf ∧ WEs X A env nm m (spliced (backTo pos' (starEach (e :: rest) env))) L1 fun qs L2 => Ih X A d Ay pf qs L2 fun ps' Ok L3 => ps' = ps ∧ Ok L3 ∧ ∀ a, Q (.ref a) ((a, .list ps) :: L3))
  (hc : eval (.Call (.Name f p1) [.Call g (e :: rest) [] pos'] [] pos) env = (do callWith pos (← eval (.Name f p1) env) [] (backTo pos (starEach [.Call g (e :: rest) [] pos'] env)) (backToKw pos (keywordEach [] env))))
  (he : starEach [.Call g (e :: rest) [] pos'] env = (false, eval (.Call g (e :: rest) [] pos') env) :: starEach [] env)
  (hplain : ((backTo pos (starEach [.Call g (e :: rest) [] pos'] env)).any (·.1) || (backToKw pos (keywordEach [] env)).any (·.1.isNone)) = false)
  (hall : (backToKw pos (keywordEach [] env)).all (·.1.isSome) = true)
  (hc' : eval (.Call g (e :: rest) [] pos') env = (do callWith pos' (← eval g env) [] (backTo pos' (starEach (e :: rest) env)) (backToKw pos' (keywordEach [] env))))
  (he' : starEach (e :: rest) env = (false, eval e env) :: starEach rest env)
  (hplain' : ((backTo pos' (starEach (e :: rest) env)).any (·.1) || (backToKw pos' (keywordEach [] env)).any (·.1.isNone)) = false)
  (hall' : (backToKw pos' (keywordEach [] env)).all (·.1.isSome) = true) : WE X A env nm m (eval (.Call (.Name f p1) [.Call g (e :: rest) [] pos'] [] pos) env) L Q := fun Z s E F => by
 rw [hc]
 refine wpAny_bind (wpAny_Name (F.load hN fun fv Vf => ?_) (F.ok.names f kf (of_mem_zip hN.mem).1).2.1)
 have := ET Vf
 subst this
 refine callWith_of (P := fun h => ∃ k, (k = Keeper.frame ∨ k = Keeper.machine ∨ k = Keeper.boundFrame) ∧ Looks X.M h (keeperOf (.type "list")) k) hplain (fun _ p => p) ?_
 refine evalArgs_kw2 hall ?_ he
 refine wpAny_items_cons ?_ he
 rw [hc']
 refine wpAny_bind (wv (h Z s E F) fun gv s1 pf L1 o2 P1 V1 e1 => ?_)
 obtain ⟨K, h1⟩ := o2
 refine Ew (P := fun v s' => wpAny X.M A (spliced (backTo pos (starEach [] env))) _ E s') K (F.ext e1 P1) V1 .nil (h1.mono fun qs L2 h2 => GQ fun s3 fv vs kvs P3 Vf3 Vs3 Ks3 e3 => ?_) he' hplain' hall'
 cases Ks3
 refine Ap (h2 Z s3 E fv vs P3 Vf3 Vs3) fun v s4 ⟨ps', Ok', L4, I', wr, gn', St', ⟨hq, hok, hQ⟩, hv, hT, hI, T, st, P4, e4, fr, gfr⟩ => ?_
 subst hv
 subst hq
 refine wpAny_items_nil (kwAll_nil ⟨⟨.machine, .inr (.inl rfl), .now⟩, ?_⟩)
 have eA := e1.trans (e3.trans e4)
 have live1 := (e1.trans e3).live
 refine Ap (HG (A := A) (Q := Q) (hA ▸ T) (fun _ _ => trivial) hA hd hok hz hT hI st (hA ▸ P4) eA (fun b hb => F.hp.zone b hb) (fun a ha => FG live1 (fr a ha)) (fun g hg => ?_) hQ) fun v s5 h5 => hA ▸ h5
 cases q : s.gens[g]? with
 | none => rfl
 | some y => have := (e1.trans e3).gens g y q; rw [gfr g hg] at this; cases this
end
structure At (K : Frag) (a : Addr) where
 fd : FuncData
 oc : Value
 od : Option Addr
 sl : Array (Option Value)
 h : K.lookup a = some ⟨oc, od, .func fd, sl⟩
theorem Pz {sl : Array (Option Value)} (KX : K.In X.h₀) (h : K.lookup a = some ⟨oc, od, .func fd, sl⟩) : Bw X (.val (.ref a)) := Nt (KX a _ h)
abbrev KNo (m : AU) (Qn : QS) : QE := fun p L => p = .none ∧ Qn m L
theorem Q6 (h : WE X A env nm m (eval e env) L (KNo m Qn)) (hs : swapsWith e none pos.line env = pure false) : WS X A env nm m (exec (.Expr e pos) env) L Qn Qr Qb Qc :=
 NQ (h.mono fun p L' ⟨e, q⟩ => ⟨by rw [e]; rfl, q⟩) hs
theorem GP (I : QS) {rest : List Stmt} (h1 : WS X A env nm m (exec st env) L I Qr Qb Qc) (h2 : ∀ m1 L1, I m1 L1 → WS X A env nm m1 (execs rest env) L1 Qn Qr Qb Qc) :
  WS X A env nm m (execs (st :: rest) env) L Qn Qr Qb Qc :=
 Ab (h1.mono fun pf m' L' q => by cases pf <;> first | exact h2 m' L' q | exact q)
theorem GR (I : QS) {t : Sem Flow} (h1 : WS X A env nm m t L I Qr Qb Qc) (h2 : ∀ m1 L1, I m1 L1 → Qn m1 L1) : WS X A env nm m t L Qn Qr Qb Qc :=
 h1.mono fun pf m' L' q => by cases pf <;> first | exact h2 m' L' q | exact q
theorem Ig (m1 : AU) (L1 : Ai) {rest : List Stmt} (h1 : WS X A env nm m (exec st env) L (fun m' L' => m' = m1 ∧ L' = L1) Qr Qb Qc) (h2 : WS X A env nm m1 (execs rest env) L1 Qn Qr Qb Qc) :
  WS X A env nm m (execs (st :: rest) env) L Qn Qr Qb Qc := GP _ h1 fun m' L' ⟨e1, e2⟩ => by subst e1 e2; exact h2
theorem WE.drop {t : Sem Value} (h : WE X A env nm m t L fun p L1 => ∃ a o L2, CZ L1 a o L2 ∧ Q p L2) : WE X A env nm m t L Q := fun Z s E F =>
 Ap (h Z s E F) fun v s' ⟨p, L1, ⟨a, o, L2, d, q⟩, P, V, e⟩ => by
  refine IZ (fun P2 _ kp e2 => ?_) <| P.drop d
  exact ⟨p, L2, q, P2, V.kp kp, e.trans e2⟩
theorem LT {x : List Nat} (ht : c ∉ x → Qt L) (hf : c ∈ x → Qf L) : Bu X A .NotIn (.str [c]) (.str x) L Qt Qf :=
 Cc (b := !decide (c ∈ x)) (fun h => NA h) (fun h => ht (by simpa using h)) fun h => hf (by simpa using h)
open Classical in
theorem Fn {T : Ty} {ds es : List Dt} (l : LV L p ps) (l' : LV L q qs) (x : CO L ps ds) (y : CO L qs es) (kd : ∀ x ∈ ds, T.ok x) (ke : ∀ x ∈ es, T.ok x) (hu : A.units + T.depth + 1 < cLine)
  (ht : ds ≠ es → Qt L) (hf : ds = es → Qf L) : Bu X A .NotEq p q L Qt Qf :=
 Cc (b := !decide (ds = es)) (fun h => RB l l' x y kd ke hu h) (fun h => ht (by simpa using h)) fun h => hf (by simpa using h)
theorem Fm.less {o : AO} (F : Fm X H Z env nm m L s) (d : CZ L a o L2) : Fm X H Z env nm m L2 s ∧ BF L L2 s s := by
 refine IZ (fun P2 _ kp e2 => ?_) <| F.hp.drop d
 exact ⟨F.ext e2 P2, e2⟩
theorem Ie {o : AO} {t : Sem Flow} (d : CZ L a o L2) (h : WS X A env nm m t L2 Qn Qr Qb Qc) : WS X A env nm m t L Qn Qr Qb Qc := fun Z s E F => by
 refine Av (fun F2 e2 => ?_) <| F.less d
 exact e2.toS.aft (h Z s E F2)
theorem A8.loc (ok : A8 env nm) (h : (x, NameKind.local) ∈ nm) : env.kindOf x = some .local := (ok.names x _ h).1.elim id fun e => by cases e.1
theorem A8.cel (ok : A8 env nm) (h : (x, NameKind.cell) ∈ nm) : env.kindOf x = some .cell := (ok.names x _ h).1.elim id fun e => by cases e.1
theorem A8.blk (ok : A8 env nm) : env.blockKind = .function := by unfold Env.blockKind; rw [ok.kind]; rfl
noncomputable abbrev D2 (env : Env) (line : Nat) : PySem.Expr → Option Str := fun
  | .Name id pos => if env.kindOf id == some .local && pos.line == line then some id else none
  | _ => none
abbrev CL : PySem.Expr → Bool := fun | .Starred .. => true | _ => false
theorem Od {ts vs : List PySem.Expr} {k k2} : swappedStores [.Tuple ts k tpos] (.Tuple vs k2 vpos) env =
 (if !(ts.length == 2 || ts.length == 3) || vs.length != ts.length || env.blockKind != .function then pure none else
  if vs.any CL then pure none else
  if (ts.filterMap (D2 env ((ts.head?.map (·.pos.line)).getD 0))).length != ts.length || (ts.filterMap (D2 env ((ts.head?.map (·.pos.line)).getD 0))).eraseDups.length != (ts.filterMap (D2 env ((ts.head?.map (·.pos.line)).getD 0))).length then pure none else
  if vs.all (foldedForSure 8) then pure none else
  if vs.all (constantsAlone 8) then do
   let _ ← (unsupported "assign.tuple-of-constant-expressions:order-of-the-stores" : Sem PUnit)
   pure (some (ts.filterMap (D2 env ((ts.head?.map (·.pos.line)).getD 0))))
  else pure (some (ts.filterMap (D2 env ((ts.head?.map (·.pos.line)).getD 0))))) := by
 with_unfolding_all rfl
theorem J6 {ts vs : List PySem.Expr} {k k2} (ok : A8 env nm) {p : Pos} (hx : PySem.Expr.Name x p ∈ ts) (h : (x, NameKind.cell) ∈ nm) :
  swappedStores [.Tuple ts k tpos] (.Tuple vs k2 vpos) env = pure none := by
 rw [Od]
 generalize (ts.head?.map (·.pos.line)).getD 0 = ln
 have h1 : (ts.filterMap (D2 env ln)).length < ts.length := by
  refine List.length_filterMap_lt_length_iff_exists.mpr ⟨_, hx, ?_⟩
  show (if env.kindOf x == some .local && p.line == ln then some x else none) = none
  rw [ok.cel h]; rfl
 have h2 : ((ts.filterMap (D2 env ln)).length != ts.length) = true := bne_iff_ne.mpr (ne_of_lt h1)
 rw [h2, Bool.true_or, if_pos rfl, ite_self, ite_self]
theorem CF {p : Pos} (ok : A8 env nm) (hx : (x, NameKind.local) ∈ nm) (hl : (p.line == ln) = true) : D2 env ln (.Name x p) = some x := by
 show (if env.kindOf x == some .local && p.line == ln then some x else none) = some x
 rw [ok.loc hx, hl]; rfl
theorem ML {ts vs : List PySem.Expr} {k k2} {names : List Str} (ok : A8 env nm) (hn : ts.filterMap (D2 env ln) = names) (hl : (ts.head?.map (·.pos.line)).getD 0 = ln) (h1 : (!(ts.length == 2 || ts.length == 3) || vs.length != ts.length) = false)
  (h2 : vs.any CL = false) (h3 : names.length = ts.length) (h4 : names.eraseDups = names) (hf : vs.all (foldedForSure 8) = false) (hc : vs.all (constantsAlone 8) = false) : swappedStores [.Tuple ts k tpos] (.Tuple vs k2 vpos) env = pure (some names) := by
 rw [Od, hl, hn, h1, h2, h4, h3, hf, hc, ok.blk, show (ts.length != ts.length) = false from bne_self_eq_false _]; rfl
theorem MC {a b : Bool} (h1 : a = false) (h2 : b = false) : (a || b) = false := by rw [h1, h2]; rfl
theorem MM {y : Str} {p1 p2 : Pos} {k k2} (ok : A8 env nm) (hx : (x, NameKind.local) ∈ nm) (hy : (y, NameKind.local) ∈ nm) (hl : (p2.line == p1.line) = true) (hne : Str.code x ≠ Str.code y)
  (h1 : CL v1 = false) (h2 : CL v2 = false) (hf : ([v1, v2].all (foldedForSure 8)) = false) (hc : ([v1, v2].all (constantsAlone 8)) = false) :
  swappedStores [.Tuple [.Name x p1, .Name y p2] k tpos] (.Tuple [v1, v2] k2 vpos) env = pure (some [x, y]) := by
 have hne' : y ≠ x := fun e => hne (by rw [e])
 refine ML ok (ln := p1.line) ?_ rfl rfl (MC h1 (MC h2 rfl)) rfl (by simp [List.eraseDups_cons, hne']) hf hc
 rw [filterMap_cons_some (CF ok hx (beq_self_eq_true _)), filterMap_cons_some (CF ok hy hl)]; rfl
theorem Q2 {y z : Str} {p1 p2 p3 : Pos} {k k2} {v3 : PySem.Expr} (ok : A8 env nm) (hx : (x, NameKind.local) ∈ nm) (hy : (y, NameKind.local) ∈ nm) (hz : (z, NameKind.local) ∈ nm) (hl : (p2.line == p1.line) = true) (hl2 : (p3.line == p1.line) = true) (hne : Str.code x ≠ Str.code y ∧ Str.code x ≠ Str.code z ∧ Str.code y ≠ Str.code z)
  (h1 : CL v1 = false) (h2 : CL v2 = false) (h3 : CL v3 = false) (hf : ([v1, v2, v3].all (foldedForSure 8)) = false) (hc : ([v1, v2, v3].all (constantsAlone 8)) = false) :
  swappedStores [.Tuple [.Name x p1, .Name y p2, .Name z p3] k tpos] (.Tuple [v1, v2, v3] k2 vpos) env = pure (some [x, y, z]) := by
 have e1 : y ≠ x := fun e => hne.1 (by rw [e])
 have e2 : z ≠ x := fun e => hne.2.1 (by rw [e])
 have e3 : z ≠ y := fun e => hne.2.2 (by rw [e])
 refine ML ok (ln := p1.line) ?_ rfl rfl (MC h1 (MC h2 (MC h3 rfl))) rfl (by simp [List.eraseDups_cons, e1, e2, e3]) hf hc
 rw [filterMap_cons_some (CF ok hx (beq_self_eq_true _)), filterMap_cons_some (CF ok hy hl), filterMap_cons_some (CF ok hz hl2)]; rfl
theorem N9 {y : Str} {p1 p2 : Pos} {k k2} (ok : A8 env nm) (h : (x, NameKind.cell) ∈ nm ∨ (y, NameKind.cell) ∈ nm) :
  swappedStores [.Tuple [.Name x p1, .Name y p2] k tpos] (.Tuple [v1, v2] k2 vpos) env = pure none := h.elim (J6 ok (.head _)) (J6 ok (.tail _ (.head _)))
theorem Pt (l : List α) (P : α → Prop) [DecidablePred P] : ∃ f : Nat → Bool, ∀ j p, l[j]? = some p → (f j = true ↔ P p) :=
 ⟨fun j => (l[j]?).any fun p => decide (P p), fun j p h => by show (l[j]?).any _ = true ↔ P p; rw [h]; exact decide_eq_true_iff⟩
structure Lv where
 start : Nat
 opn : Option Nat
 out : List (List Nat)
noncomputable def AH (x : List Nat) (st : Lv) (u : Nat × List Nat) : Lv :=
 if u.2 = [34] then match st.opn with
  | none => { st with opn := some u.1 }
  | some o => ⟨u.1 + 1, none, if st.start ≠ o then st.out ++ [pick x (some st.start) (some o) none] else st.out⟩
 else st
def Cu (x : List Nat) (us : List (Nat × List Nat)) : Lv := us.foldl (AH x) ⟨0, none, []⟩
def Ct (x : List Nat) (st : Lv) : List (List Nat) := if st.start < x.length then st.out ++ [pick x (some st.start) none none] else st.out
def BL (x : List Nat) : List Nat := if 34 ∈ x then (Ct x (Cu x (esc 0 false x))).flatten else x
noncomputable def CH : List (Nat × List Nat) → Int → Bool
 | [], o => decide (o = 0)
 | u :: r, o => if u.2 = [40] then CH r (o + 1) else if u.2 = [41] then (if o - 1 < 0 then false else CH r (o - 1)) else CH r o
def Db (x : List Nat) : Bool := CH (esc 0 false (BL x)) 0
def Bt : List Nat := (ofString "('', '')").cps.toList
def E2 (x : List Nat) : List Nat := if Db x then x else Bt
theorem BG : ∀ (l : List Nat) (i : Nat) (b : Bool), (esc i b l).length ≤ l.length + 1
 | [], i, true => by simp [esc]
 | [], i, false => by simp [esc]
 | c :: l, i, true => by simp only [esc, length_cons]; have := BG l (i + 1) false; exact Aa 0x12048900024400012240800421 rt this
 | c :: l, i, false => by
  unfold esc
  split
  ·have := BG l (i + 1) true; simp only [length_cons]; exact Aa 0x2409120020012240800421 rt this
  ·have := BG l (i + 1) false; simp only [length_cons]; exact Aa 0x12048900024400012240800421 rt this
theorem EQ (x : List Nat) : ∀ (us : List (Nat × List Nat)) (st : Lv), (∀ y ∈ st.out, y.length ≤ x.length) → (∀ y ∈ (us.foldl (AH x) st).out, y.length ≤ x.length) ∧ (us.foldl (AH x) st).out.length ≤ st.out.length + us.length
 | [], st, h => ⟨h, by simp⟩
 | u :: us, st, h => by
  rw [foldl_cons]
  have h1 : (∀ y ∈ (AH x st u).out, y.length ≤ x.length) ∧ (AH x st u).out.length ≤ st.out.length + 1 := by
   unfold AH
   split
   ·split
    ·exact ⟨h, by simp⟩
    ·split
     ·refine ⟨fun y hy => ?_, by simp⟩
      rcases List.mem_append.mp hy with q | q
      ·exact h y q
      ·simp at q; subst q; exact DJ ..
     ·exact ⟨h, by simp⟩
   ·exact ⟨h, by simp⟩
  refine Av (fun h2 h3 => ?_) <| EQ x us _ h1.1
  exact ⟨h2, by simp only [length_cons]; exact B7 0x48b0240a02d00500212240800422 rt h1.2 h3⟩
theorem D5 {l : List (List Nat)} (h : ∀ y ∈ l, y.length ≤ n) : (l.map List.length).sum ≤ l.length * n := by
 induction l with
 | nil => simp
 | cons a l ih =>
  have h1 := h a (.head _)
  have h2 := ih fun y hy => h y (.tail _ hy)
  simp only [map_cons, sum_cons, length_cons, succ_mul]
  exact B7 0x9581480016a0052800422 rt h1 h2
theorem Ld {x : List Nat} (hx : x.length ≤ 2000) : ((Ct x (Cu x (esc 0 false x))).map List.length).sum ≤ sizeLine := by
 have h1 := EQ x (esc 0 false x) ⟨0, none, []⟩ (fun y hy => nomatch hy)
 have h2 := BG x 0 false
 have h3 : ∀ y ∈ Ct x (Cu x (esc 0 false x)), y.length ≤ x.length := fun y hy => by
  unfold Ct at hy
  split at hy
  ·rcases List.mem_append.mp hy with q | q
   ·exact h1.1 y q
   ·simp at q; subst q; exact DJ ..
  ·exact h1.1 y hy
 have h4 : (Ct x (Cu x (esc 0 false x))).length ≤ x.length + 2 := by
  unfold Ct
  have : (Cu x (esc 0 false x)).out.length ≤ x.length + 1 := by have := h1.2; unfold Cu; simp at this; exact AB 0x48902808500212240800422 rt h2 this
  split
  ·simp; exact Aa 0x489020012240800421 rt this
  ·exact Aa 0x889020012240800421 rt this
 have h5 := D5 h3
 have h6 : (Ct x (Cu x (esc 0 false x))).length * x.length ≤ 2002 * 2000 := mul_le_mul (by exact Aa 0xfa432a402220090043e80ca800422 rt hx h4) hx
 have h7 : (2002 * 2000 : Nat) ≤ sizeLine := by decide
 lia
structure Wst where
 count : List Nat
 b : Nat
 n : Nat
 nt : Nat
noncomputable def CM (st : Wst) (c : Nat) : Option Wst :=
 if c = 32 then some { st with n := st.n + 1, b := st.b + 1 }
 else if c = 9 then
  let ct := if st.count.length ≤ st.b then st.count ++ replicate (st.b - st.count.length + 1) 0 else st.count
  some ⟨ct.set st.b (ct.getD st.b 0 + 1), 0, st.n + 1, st.nt + 1⟩
 else none
noncomputable def Er : Wst → List Nat → Wst
 | st, [] => st
 | st, c :: l => match CM st c with
  | some st' => Er st' l
  | none => st
def EU (x : List Nat) : Wst := Er ⟨[], 0, 0, 0⟩ x
abbrev An (l : List Nat) : List PV := l.map fun (n : Nat) => PV.int n
abbrev Gv : List Str := [ofString "raw", ofString "n", ofString "nt", ofString "norm", ofString "is_simple"]
noncomputable abbrev Gu (x : List Nat) (st : Wst) : List PV := [.str x, .int st.n, .int st.nt, .tup [.tup (An st.count), .int st.b], .bool (decide (st.count.length ≤ 1))]
theorem Qa (hz : ps.length < 2 ^ 62) (h : Q (.int ps.length) L) : As X A (.val (.builtin "len")) [.tup ps] [] L Q := fun Z s E fv vs kvs P Vf Vs Ks => by
 apply AI Vf
 apply Vs.cons_el; intro v r V y
 apply y.nil_el
 cases Ks
 apply Dd V; intro a vs n ho _ r
 have ht : IsTup s.heap a vs.toArray := ⟨_, ho, rfl, n, rfl⟩
 refine Calls.call_function_entry kind_len plain_len entry_len (args_len1 _) (len_entry_tuple ht (by simp [r.length]; exact Aq 0x10000000000000000d2a064200000000000000034a808421 rt hz) ?_)
 refine .keeps P (Az s _) ?_ h
 rw [size_toArray, r.length]; exact AT _ _
noncomputable def GV (st : Wst) (ts : Nat) : Nat := st.b + ts * (((List.range (st.count.length - ts)).map fun j => (ts + j) / ts * st.count.getD (ts + j) 0).sum + st.nt)
section
variable {p : Program} {loose : List Str} {mean : ExcName → Option Value} {mg mb : Str → Option Value} {c P : Addr}
noncomputable def I3 (prog : Program) (w : World) (s : Shared) (mg mb : Str → Option Value) (T : Top p loose mean mg mb s.heap) (hT : TabsAt [(c, P)] s.heap) : Cx :=
 { prog, w, h₀ := ghostOf s.heap [(c, P)], os₀ := s.os, mg, mb, g := ghost_ns hT T.g, b := ghost_ns hT T.b, nolimit := (ghost_top hT T).nolimit }
theorem No (KX : K.In X.h₀) (e : nsIn K mainGlobals x = some (some v)) : Da X x v := .inl (mg_of KX X.g e)
theorem Jt (KX : K.In X.h₀) (hb : ∀ x : Str, x ≠ "__name__" → X.mb x = bootBuiltins x) (e : nsIn K mainGlobals x = some none) (hn : x ≠ "__name__") (hv : bootBuiltins x = some v) : Da X x v := .inr ⟨mg_none_of KX X.g e, (hb x hn).trans hv⟩
theorem O7 (T : Top p loose mean mg mb s.heap) (hT : TabsAt [(c, P)] s.heap) (hP : c ≠ P) (hg : s.gens = #[]) (qual : Str) : Hp (I3 prog w s mg mb T hT) none [] [(P, .tab c qual)] s := by
 have h1 := (hT _ (.head _)).1
 have h2 := (hT _ (.head _)).2
 refine ⟨fun b o e => of_hideAll _ e, rfl, by rw [hg]; exact AllBare.empty, fun x hx => ?_, by simp [dom], fun a ha => ?_, (fun a _ hm => nomatch hm), (fun a ha => nomatch ha), trivial⟩
 ·rw [List.mem_singleton.mp hx]
  exact ⟨#[], h2, h1, by simp [dz, dom, hP], trivial, trivial⟩
 ·have : a = P := by simpa [dz, dom] using ha
  subst this
  exact hideAll_none _ (by simp)
theorem Nw (T : Top p loose mean mg mb s.heap) (hT : TabsAt [(c, P)] s.heap) (ht : s.heap.TableAt c P #[]) (Q : Hp (I3 prog w s mg mb T hT) H Z L' s') (hm : (P, AO.tab c qual) ∈ L') : OldK s.heap s'.heap := by
 refine Ar (fun tps h1 _ => ?_) <| Q.led _ hm
 refine ⟨fun b o e => ?_, fun b o e => ?_⟩
 ·by_cases hb : b = P
  ·subst hb
   have := (hT _ (.head _)).2
   rw [e] at this
   cases this
   exact .inr (.inl ⟨ht.isCodeTable, rfl, #[], tps, rfl, by simpa using h1⟩)
  ·exact .inl (Q.keep b o (hideAll_get _ e (by simpa using hb)))
 ·by_cases hb : b = P
  ·exact ⟨_, hb ▸ h1⟩
  ·exact ⟨o, Q.keep b o (hideAll_get _ e (by simpa using hb))⟩
end
theorem Bz {Fin : Ai → List PV → Prop} (I : Cr X nm m scope.names m₀) (ht : tg target) (M : AU → Prop) (hM : M m₀)
  (h : WI X A env nm m (eval iter env) L tg fun ps Ok L1 => ∃ out : List PV, out.length = ps.length ∧ Ok L1 ∧ out.length ≤ sizeLine ∧ Fin L1 out ∧
   ∀ cenv, A8 cenv scope.names → cenv.code = env.code → cenv.qual = env.qual → ∀ (i : Nat) (p q : PV) (m' : AU), ps[i]? = some p → out[i]? = some q → M m' →
    WAs X A cenv scope.names m' (assign target cenv) p L1 fun m2 L2 => L2 = L1 ∧ M m2 ∧ WE X A cenv scope.names m2 (eval elt cenv) L1 fun r L3 => L3 = L1 ∧ r = q) :
  Dx Cq X A env nm m L ⟨target, iter, [], 0⟩ scope tg (emL elt) [] Fin := by
 refine ⟨m₀, I, ht, h.mono ?_⟩
 rintro ps Ok L1 ⟨out, hlen, hok, hz, hfin, step⟩
 refine ⟨fun i m' L' x => M m' ∧ L' = L1 ∧ x = out.take i, ⟨hM, rfl, rfl⟩, ?_, ?_⟩
 ·rintro cenv h1 h2 h3 i p m' L' x hp ⟨hm, rfl, rfl⟩
  have hi : i < out.length := by rw [hlen]; exact (List.getElem?_eq_some_iff.mp hp).1
  have hq : out[i]? = some out[i] := getElem?_eq_getElem hi
  refine ⟨hok, fun Z s E v F V => (wa (step cenv h1 h2 h3 i p _ m' hp hq hm Z s E v F V) fun _ s' m2 L2 o F2 x2 => ⟨m2, L2, ?_, F2, x2⟩)⟩
  refine CP (fun e1 e2 e3 => ?_) o
  subst e1
  refine D6 (Cp (e3.mono ?_))
  rintro r L3 ⟨rfl, rfl⟩
  refine ⟨by rw [length_take]; exact AB 0x95010a0052800422 rt hz (min_le_right _ _), e2, rfl, ?_⟩
  rw [take_add_one, hq]; rfl
 ·rintro m' L' x ⟨hm, rfl, rfl⟩
  exact ⟨hok, by rw [← hlen, take_length]; exact hfin⟩
theorem AK {x : List PV} (h : Q (.lst x) L') : ∀ D, ∃ p L2, E7 D x L' p L2 ∧ Q p L2 := fun D => ⟨_, _, .frz, h⟩
theorem JT {x : List PV} (h : ∀ D, Q (.ref D) ((D, .list x) :: L')) : ∀ D, ∃ p L2, E7 D x L' p L2 ∧ Q p L2 := fun D => ⟨_, _, .led, h D⟩
theorem En {p : Pos} {t : Str} (ok : A8 env nm) (hx : (t, NameKind.local) ∈ nm) (hl : (pos.line == (PySem.Expr.ListComp e gs sc p).pos.line) = true) (hn : (sc.names.any fun x => x.1 == t && (x.2 == .local || x.2 == .cell)) = false) :
  swapsWith (.ListComp e gs sc p) (some (.Name t pos)) line env = pure true := by
 unfold swapsWith
 dsimp only
 have h1 : (env.blockKind == ScopeKind.function) = true := by rw [ok.blk]; rfl
 have h2 : (env.kindOf t == some NameKind.local) = true := by rw [ok.loc hx]; rfl
 rw [h1, h2, hl]
 simp only [Bool.true_and]
 rw [show (sc.names.any fun x => match x with | (n, k) => n == t && (k == .local || k == .cell)) = false from hn]
 rfl
theorem FK {p : Pos} {t : Str} (ok : A8 env nm) (hx : (t, NameKind.cell) ∈ nm) : swapsWith (.ListComp e gs sc p) (some (.Name t pos)) line env = pure false := by
 unfold swapsWith
 dsimp only
 have h2 : (env.kindOf t == some NameKind.local) = false := by rw [ok.cel hx]; rfl
 rw [h2]
 simp
theorem NE (c n : Nat) : rep [c] (n : Int) = replicate n c := by
 unfold rep
 rw [toNat_natCast]
 induction n with
 | zero => rfl
 | succ n ih => rw [replicate_succ, flatten_cons, ih]; rfl
abbrev sgn (b : Bool) : List Nat := if b then [40] else [41]
noncomputable abbrev AW (m : Nat × Bool) : PV := .tup [.int m.1, .str (sgn m.2)]
noncomputable def Ej (lead : List Nat) (size : Nat) : Nat := lead.foldl (fun c s => if s = 32 then c + 1 else (c / size + 1) * size) 0
noncomputable def O3 (signs hidden : List (List Nat)) : List Nat := (signs.zipIdx.map fun x => x.1 ++ hidden.getD (x.2 % 5) []).flatten
noncomputable def CK (marks : List Bool) (slope : Nat) : List (List Nat) := marks.map fun b => if b then replicate slope 40 else [41]
def Bo (marks : List Bool) (slope : Nat) (hidden : List (List Nat)) (tail : List Nat) : List Nat := O3 (CK marks slope) hidden ++ tail
theorem BQ.drop {o : AO} (h : BQ L a o o' L') : ∃ L0, CZ L a o L0 ∧ ∀ x ∈ L', x = (a, o') ∨ x ∈ L0 := by
 induction h with
 | @here a o o' L => exact ⟨L, .here, fun x hx => by rcases List.mem_cons.mp hx with r | r <;> simp [r]⟩
 | @there a o o' x L L' h ih =>
  refine Ar (fun L0 d k => ?_) <| ih
  refine ⟨x :: L0, .there d, fun y hy => ?_⟩
  rcases List.mem_cons.mp hy with r | r
  ·exact .inr (by rw [r]; exact .head _)
  ·exact (k y r).imp id (.tail _)
theorem Hp.hide {L0 : Ai} {o : AO} (P : Hp X H Z L s) (d : CZ L a o L0) : Hp X H (a :: Z) L0 s ∧ (∀ b, b ∈ dz L0 (a :: Z) → b ∈ dz L Z) := by
 refine IZ (fun P0 hn kp _ => ?_) <| P.drop d
 have sub : ∀ b, b ∈ dz L0 (a :: Z) → b ∈ dz L Z := fun b hb => by
  rcases List.mem_append.mp hb with q | q
  ·refine Ar (fun y hy e => ?_) <| List.mem_map.mp q
   exact mem_append_left _ (List.mem_map.mpr ⟨y, d.sub y hy, e⟩)
  ·rcases List.mem_cons.mp q with r | r
   ·rw [r]; exact M5 d.mem
   ·exact mem_append_right _ r
 refine ⟨⟨P.keep, P.os, P.bare, fun x hx => BP.kp (AP sub) (fun _ e => e) (P.led x (d.sub x hx)), P0.nodup, fun b hb => P.fresh b (sub b hb), fun b hb hm => ?_, fun b hb => ?_, P.held.kp (AP sub)⟩, sub⟩
 ·rcases List.mem_cons.mp hm with r | r
  ·exact hn (mem_append_left _ (r ▸ hb))
  ·exact P0.apart b hb r
 ·rcases List.mem_cons.mp hb with r | r
  ·rw [r]; exact P.led_live (AX d.mem)
  ·exact P.zone b r
theorem Md {x : List Nat} (hh : A.handled = none) (S : BQ L a (.list ps) (.list (ps ++ Bk x)) L') (hz : ps.length + x.length ≤ sizeLine) (h : Q .none L') : As X A (.val (.builtin "list.extend")) [.ref a, .str x] [] L Q := fun Z s E fv vs kvs P Vf Vs Ks => by
 apply AI Vf
 apply Vs.cons_el; intro v r V y
 apply y.cons_el; intro v2 r2 V2 y
 apply y.nil_el
 cases Ks
 rw [Cw V]
 refine B8 (fun ws n ho rl => ?_) <| P.led _ S.mem
 refine Ar (fun L0 d hL' => ?_) <| S.drop
 refine Av (fun P0 sub => ?_) <| P.hide d
 have han : a ∉ dom L0 := (d.nodup P.nodup).2
 have haZ : a ∉ Z := P.apart a (AX d.mem)
 apply Bn V2; intro hx t
 have g : Meets (Builtin.«list.extend» ⟨[.ref a, .str ⟨x.toArray⟩ t], []⟩) (fun A' R s' => A' = A ∧ s' = s ∧ ∀ s'', Be X none Z L s Q .none s'' → R (.ok (.ret .none)) s'') := by
  rintro prog w A' R s' ⟨rfl, rfl, hR⟩
  obtain ⟨X', hX'⟩ : ∃ X' : Cx, X' = { X with prog := prog, w := w } := ⟨_, rfl⟩
  have P0' : Hp X' A'.handled (a :: Z) L0 s' := by subst hX'; exact ⟨P0.keep, P0.os, P0.bare, P0.led, P0.nodup, P0.fresh, P0.apart, P0.zone, P0.held⟩
  have eM : model prog w = X'.M := by subst hX'; rfl
  have e0 : X'.h₀ = X.h₀ := by subst hX'; rfl
  have eo : X'.os₀ = X.os₀ := by subst hX'; rfl
  rw [eM]
  show wpAny _ A'.in1 (Builtin.List.listExtendWith (.ref a) (.str ⟨x.toArray⟩ t) .none) _ _ s'
  unfold Builtin.List.listExtendWith
  refine wpAny_bind (wpAny_typeOf (T := "str") (v := .str ⟨x.toArray⟩ t) rfl ?_)
  have h1 : Builtin.List.listSameRef (.ref a) (.str ⟨x.toArray⟩ t) = false := rfl
  have h2 : (Value.type "str" == Value.type "list") = false := by decide
  have h3 : (Value.type "str" == Value.type "tuple") = false := by decide
  simp only [h1, h2, h3, Bool.or_false, false_eq_true, if_false]
  have V2' : Aj (dz L0 (a :: Z)) s'.heap (.str x) (.str ⟨x.toArray⟩ t) := by exact And.intro hx ⟨t, rfl⟩
  have pi := Mp (X := X') (A := A'.in1) (L := L0) (Z := a :: Z) (L₀ := L0) (s₀ := s') (Q := fun ps' Ok L'' => ps' = Bk x ∧ L'' = L0 ∧ ∀ L, Ok L) .str trivial P0' V2' (.refl _ _) ⟨rfl, rfl, fun _ => trivial⟩
  refine CQ (fun ps' Ok L1 o₀3 hc => ?_) <| pi; obtain ⟨rfl, rfl, hok⟩ := o₀3
  refine wpAny_bind (hc A'.in1 _ _ rfl (AR _) fun I wr gn St s2 T st P2 e2 fr gfr => ?_)
  refine wpAny_bind (wpAny_holding ?_)
  unfold Builtin.List.listLengthHint
  refine wpAny_bind (wpAny_specialOf (T := "str") (v := .str ⟨x.toArray⟩ t) rfl F.str_len ?_)
  wp_delta
  refine wpAny_bind (wpAny_isInstance (T := "str") (v := .str ⟨x.toArray⟩ t) (b := true) rfl (by rw [isSubtype_type]; kernel_rfl) ?_)
  show wpAny _ _ (typeOf (Value.str ⟨x.toArray⟩ t) >>= _) _ _ _
  refine wpAny_bind (wpAny_typeOf (T := "str") (v := .str ⟨x.toArray⟩ t) rfl ?_)
  refine wpAny_pure ?_
  rw [if_neg (by decide)]
  have hS2 := (e2.heap a _ ho han).1
  have hawr : a ∉ wr := fun hm => by rw [fr a hm] at ho; cases ho
  have hcl : (Bk x).length = x.length := by simp [Bk]
  refine wpAny_pure ⟨plainId_quiet F.plain_extend_loop _, EI (X := X') (A := A') (Z := Z) (W := a :: wr) (s0 := s2) (ps0 := ps) (hh ▸ T) (fun _ _ => trivial) hh (AR _) (hok _) (by rw [hcl]; exact hz) (.inl (.head _)) .none (Bk x).length 0 _ (by exact GH 0x4a0490110014021 rt (sub_add_cancel (Aq 268566560 rt))) (zero_le _)
   ⟨⟨wr ++ (a :: Z), wr, ws, n, hh ▸ P2, by simp, fun b hb => by simp [hb], fun b hb => by simp [hb], hawr, fun b hb => .inl (.tail _ hb), st, hS2, ?_⟩, fun b o w q => q, fun g y w q => q⟩ ?_⟩
  ·rw [take_zero, append_nil]
   refine rl.kp fun b o q n => ⟨(e2.heap b o q fun hm => n (sub b (mem_append_left _ hm))).1, fun hm => ?_⟩
   rcases List.mem_append.mp hm with r | r
   ·exact n (sub b (mem_append_left _ r))
   ·rcases List.mem_append.mp r with r | r
    ·rw [fr b r] at q; cases q
    ·exact n (sub b (mem_append_right _ r))
  ·rintro s3 ⟨Zc, acc, c, P3, haZc, hZc, hl3, V3⟩ kept gens
   have subc : ∀ b, b ∈ dz L' Z → b ∈ dz L1 Zc := fun b hb => by
    rcases List.mem_append.mp hb with q | q
    ·refine Ar (fun y hy e₀2 => ?_) <| List.mem_map.mp q; obtain rfl := e₀2
     rcases hL' y hy with r | r
     ·rw [r]; exact mem_append_right _ haZc
     ·exact M5 r
    ·exact mem_append_right _ (hZc b q)
   have domE := S.dom
   have nw : ∀ b o, s'.heap.get? b = some o → b ∉ dom L → b ∉ a :: wr := fun b o q n hm => by
    rcases List.mem_cons.mp hm with r | r
    ·rw [r] at n; exact n (AX d.mem)
    ·rw [fr b r] at q; cases q
   have sub0 : ∀ b, b ∈ dom L1 → b ∈ dom L := fun b hb => by refine Ar (fun y hy e => ?_) <| List.mem_map.mp hb; exact List.mem_map.mpr ⟨y, d.sub y hy, e⟩
   refine hR s3 ⟨.none, L', h, ⟨e0 ▸ P3.keep, P3.os.trans eo, P3.bare, fun y hy => ?_, by rw [domE]; exact P.nodup, fun b hb => e0 ▸ P3.fresh b (subc b hb), fun b hb => P.apart b (domE ▸ hb), fun b hb => P3.zone b (hZc b hb), trivial⟩, AS, ⟨fun b o q n => ?_, fun g y q => ?_, fun b o q => ?_⟩⟩
   ·rcases hL' y hy with r | r
    ·rw [r]; exact ⟨acc, c, hl3, V3.kp (AP subc)⟩
    ·exact BP.kp (AP subc) (fun _ e => e) (P3.led y r)
   ·exact ⟨kept b o (nw b o q n) (e2.heap b o q fun hm => n (sub0 b hm)).1, fun hm => n (domE ▸ hm)⟩
   ·exact gens g y (fun hm => by rw [gfr g hm] at q; cases q) (e2.gens g y q)
   ·by_cases hb : b = a
    ·exact ⟨_, hb ▸ hl3⟩
    ·refine Ao (fun o' q' => ?_) <| e2.live b o q
     exact ⟨o', kept b o' (fun hm => by
      rcases List.mem_cons.mp hm with r | r
      ·exact hb r
      ·rw [fr b r] at q; cases q) q'⟩
 refine call_meets F.slot_list_extend ⟨_, ho, rfl⟩ F.entry_list_extend (F.args_list_extend_2 _ _) g ⟨rfl, rfl, fun s'' hs => hh ▸ hs⟩
theorem AV {f : α → PV} {g : α → Dt} (h : ∀ a, DOf L (f a) (g a)) : ∀ l : List α, CO L (l.map f) (l.map g)
 | [] => .nil
 | a :: l => .cons (h a) (AV h l)
theorem Rk (a b : Nat) : min (a : Int) (b : Int) = ((min a b : Nat) : Int) := by
 rcases le_total a b with h | h
 ·rw [Int.min_eq_left (Int.ofNat_le.mpr h), min_eq_left h]
 ·rw [Int.min_eq_right (Int.ofNat_le.mpr h), min_eq_right h]
theorem EC (n k : Nat) : clipAt n (k : Int) = min k n := by
 unfold clipAt
 rw [if_neg (Int.not_lt.mpr (natCast_nonneg k)), Rk, Int.max_eq_right (natCast_nonneg _), toNat_natCast]
theorem Cv (p : List α) (k : Nat) : pick p none (some (k : Int)) none = p.take k := by
 rw [BK]
 show (p.drop 0).take (clipAt p.length (k : Int) - 0) = _
 rw [EC, drop_zero, Nat.sub_zero]
 rcases le_total k p.length with h | h
 ·rw [min_eq_left h]
 ·rw [min_eq_right h, take_length, take_of_length_le h]
theorem Dr (p : List α) (k : Nat) : pick p (some (k : Int)) none none = p.drop k := by
 rw [BK]
 show (p.drop (clipAt p.length (k : Int))).take (p.length - clipAt p.length (k : Int)) = _
 rw [EC]
 rcases le_total k p.length with h | h
 ·rw [min_eq_left h, take_of_length_le (by rw [length_drop]; exact Aq 8650784 rt)]
 ·rw [min_eq_right h, drop_length, List.drop_eq_nil_of_le h]; simp
theorem II (p : List α) (j k : Nat) : pick p (some (j : Int)) (some (k : Int)) none = (p.drop j).take (k - j) := by
 rw [BK]
 show (p.drop (clipAt p.length (j : Int))).take (clipAt p.length (k : Int) - clipAt p.length (j : Int)) = _
 rw [EC, EC]
 rcases le_total j p.length with h | h
 ·rw [min_eq_left h]
  rcases le_total k p.length with h2 | h2
  ·rw [min_eq_left h2]
  ·rw [min_eq_right h2, take_of_length_le (by rw [length_drop]; exact Aq 8650784 rt), take_of_length_le (by rw [length_drop]; exact FE 0xc5012b6005042d401052800423 rt h2 (sub_add_cancel (Aa 0x94012800421 rt h)) (sub_add_cancel (AB 0xa401490052800422 rt h h2)))]
 ·rw [min_eq_right h, drop_length, List.drop_eq_nil_of_le h]; simp
theorem MH (p : List Nat) : pick p none (some 1) none = p.take 1 := Cv p 1
noncomputable def CD (hidden : List (List Nat)) : List (List Nat) := hidden.map fun p => if p.take 1 = [92] then p else []
noncomputable def AY (left : List (List Nat)) (marks : List (Bool × Nat)) : List (List Nat) := marks.flatMap fun x => [sgn x.1, left.getD (x.2 % 5) []].filter (fun y => decide (y ≠ []))
def Bi (marks : List Bool) (hidden : List (List Nat)) (tail : List Nat) : List (List Nat) := AY (CD hidden) marks.zipIdx ++ tail.map fun c => [c]
noncomputable def Bg (us : List (List Nat)) : List (Int × List Nat) := us.zipIdx.map fun x => (((us.take (x.2 + 1)).flatten.length : Int) - 1, x.1)
noncomputable def AD (signs : List Bool) (size col : Nat) (st : Nat × List Nat) (depth : Nat) : Nat × List Nat :=
 if col ≤ depth + size ∧ depth < col then
  (st.1 + 1 + ((signs.drop (st.1 + 1)).takeWhile id).length, st.2 ++ [depth] ++ replicate ((signs.drop (st.1 + 1)).takeWhile id).length col)
 else (st.1, st.2 ++ [depth])
noncomputable def BD (signs : List Bool) (size : Nat) (st : Nat × List Nat) (col : Nat) : Nat × List Nat := st.2.foldl (AD signs size col) (st.1, [])
noncomputable def Fk (signs : List Bool) (size at0 : Nat) : List Nat := ((List.range (size * signs.count true)).foldl (fun st j => BD signs size st (j + 1)) (at0, replicate at0 0)).2
theorem Oe : ∀ {l : List Bool} {j : Nat}, j < (l.takeWhile id).length → l[j]? = some true
 | [], j, h => by simp at h
 | true :: l, 0, h => rfl
 | true :: l, j + 1, h => by simp at h ⊢; exact Oe (by simpa using h)
 | false :: l, j, h => by simp at h
theorem MQ : ∀ (l : List Bool), l[(l.takeWhile id).length]? ≠ some true
 | [] => by simp
 | true :: l => by simpa using MQ l
 | false :: l => by simp
theorem Io {signs : List Bool} {size col : Nat} (hs : signs.length ≤ 100) : ∀ (ds : List Nat) (st : Nat × List Nat), (ds.foldl (AD signs size col) st).2.length ≤ st.2.length + ds.length * 101
 | [], st => by simp
 | d :: ds, st => by
  rw [foldl_cons]
  have h1 := Io (size := size) (col := col) hs ds (AD signs size col st d)
  have h2 : (AD signs size col st d).2.length ≤ st.2.length + 101 := by
   unfold AD
   split
   ·have : ((signs.drop (st.1 + 1)).takeWhile id).length ≤ 100 := le_trans (List.takeWhile_prefix id).length_le (by rw [length_drop]; exact Aa 0xc822a40848023208a800422 rt hs (sub_le _ _))
    simp only [length_append, length_cons, length_nil, length_replicate]; exact Aa 0x3288a9020240100900003208a800421 rt this
   ·simp
  simp only [length_cons]
  lia
theorem Gx : ∀ {vs : List Value} {ns : List Int}, IntsAre vs ns → Ae D h (ns.map .int) vs
 | _, _, .nil => .nil
 | _, _, .cons n t r => .cons (AT _ _) (Gx r)
theorem JB {vs : List Value} {ns : List Int} {lo hi st : Option Int} (hL : X.h₀.IsList a vs.toArray) (hI : IntsAre vs ns) (hz : ns.length ≤ sizeLine) (h0 : st ≠ some 0) (h : Q (.lst ((pick ns lo hi st).map .int)) L) :
  CR X A (B4 value slice) (.val (.ref a)) (.sli lo hi st) L Q := fun Z s E u v P Va Vb => by
 refine K3 (fun b vl vu vs' e₀4 hb i1 i2 i3 => ?_) <| HX Vb; obtain rfl := e₀4
 apply AI Va
 have hl : s.heap.IsList a vs.toArray := by
  obtain ⟨o, ho, hc, n, hd⟩ := hL
  exact ⟨o, P.keep _ _ ho, hc, n, hd⟩
 have r : Ae (dz L Z) s.heap (ns.map .int) vs := Gx hI
 have hlen : vs.length = ns.length := by rw [r.length]; simp
 refine Dv hl.typeIs slot_list_getitem.lookup (wpAny_getItem_list_slice hl ⟨_, hb.1, rfl, rfl⟩ i1 i2 i3 h0 ?_ (by rw [size_toArray, hlen]; exact hz))
 have k := A9 s { cls := .type "list", data := .seq (slicePick vs.toArray lo hi st) } s.toks
 refine Av (fun P2 e2 => ?_) <| P.alloc (ps := pick (ns.map .int) lo hi st) (vs := pick vs lo hi st) (n := 0) k (le_refl _) (by rw [EP]; exact get?_push_size _ rfl) (r.pick lo hi st)
 rw [Bf] at P2
 refine CP (fun P3 V3 e3 => ?_) <| P2.freeze .here
 rw [Bf] at e2
 exact ⟨_, _, h, P3, V3, e2.trans e3⟩
theorem Kd (l : List Int) : (l.map fun y => y % 5040).sum = (((l.map fun y => (y % 5040).toNat).sum : Nat) : Int) := by
 induction l with
 | nil => rfl
 | cons y l ih =>
  rw [map_cons, sum_cons, ih, map_cons, sum_cons]
  have : (0 : Int) ≤ y % 5040 := emod_nonneg _ (by decide)
  exact q21 0x4a00348e802d10328421 rt (toNat_of_nonneg (FI 0x50041d00418421 rt this))
theorem J4 (l : List Int) : (l.map fun y => (y % 5040).toNat).sum ≤ l.length * 5040 := by
 induction l with
 | nil => simp
 | cons y l ih =>
  rw [map_cons, sum_cons, length_cons]
  have : y % 5040 < 5040 := Int.emod_lt_of_pos _ (by decide)
  lia
theorem N7 (l : List Int) (hl : l.length ≤ 1000) : ∀ j, j < (l.map fun y => y % 5040).length → InLong ((l.map fun y => y % 5040).getD j 0) ∧ InLong ((l.map fun y => y % 5040).take (j + 1)).sum := fun j hj => by
 rw [length_map] at hj
 refine ⟨?_, ?_⟩
 ·rw [getD_eq_getElem?_getD, getElem?_map, getElem?_eq_getElem hj]
  have h1 : (0 : Int) ≤ l[j] % 5040 := emod_nonneg _ (by decide)
  have h2 : l[j] % 5040 < 5040 := Int.emod_lt_of_pos _ (by decide)
  show InLong (l[j] % 5040)
  unfold InLong; exact ⟨FI 0x14400000000000000034a21d00418421 rt h1, FI 0x20000000000000001a5a109d80cb420421 rt h2⟩
 ·rw [← map_take, Kd]
  have := J4 (l.take (j + 1))
  have h2 : (l.take (j + 1)).length ≤ 1000 := by rw [length_take]; exact Aa 0x7d022a4084803f408a800422 rt hl (min_le_right _ _)
  have h3 : (l.take (j + 1)).length * 5040 ≤ 1000 * 5040 := mul_le_mul_right _ h2
  unfold InLong; lia
theorem Rm {a b : Nat} (h : b ≤ a) : (a : Int) - (b : Int) = ((a - b : Nat) : Int) := (Int.ofNat_sub h).symm
theorem Qe (h : n ≤ 100000) : -(2 ^ 64) < (n : Int) ∧ (n : Int) < 2 ^ 64 := by exact ⟨Aq 0x81c0000000000000001a511020 rt, Aq 0x100000000000000006950320c35010a800421 rt h⟩
theorem M2 (h : n ≤ 100000) : (n : Int) < 2 ^ 63 := by exact Aq 0x80000000000000006950320c35010a800421 rt h
theorem Nz (h : n ≤ 100000) : (n : Int) < 2 ^ 62 := by exact Aq 0x40000000000000006950320c35010a800421 rt h
theorem Oz : -(2 ^ 62) ≤ (n : Int) := by exact Aq 0x8190000000000000001a510c20 rt
theorem ge0 : 0 ≤ (n : Int) := natCast_nonneg n
theorem big (h : n ≤ k) (hk : ble k 100000 = true) : n ≤ 100000 := le_trans h (Nat.le_of_ble_eq_true hk)
theorem sl (h : n ≤ 100000) : n ≤ sizeLine := le_trans h (by decide)
theorem ilt {a b : Nat} (h : (a : Int) < (b : Int)) : a < b := Int.ofNat_lt.mp h
theorem RC {a b : Nat} (h : ¬ (a : Int) < (b : Int)) : b ≤ a := Nat.le_of_not_lt fun e => h (Int.ofNat_lt.mpr e)
theorem O5 (l : LV L p ps) (hk : k ≤ 100000) (hq : ps[k]? = some q) (h : Q q L) : CR X A (B4 value slice) p (.int k) L Q := Bm l ge0 (M2 hk) (by rw [toNat_natCast]; exact hq) h
theorem Nr (hk : k ≤ 100000) (hq : ps[k]? = some q) (h : Q q L) : CR X A (B4 value slice) (.tup ps) (.int k) L Q := BV ge0 (M2 hk) (by rw [toNat_natCast]; exact hq) h
theorem Kc {m : Nat} (h : n < m) (hm : m < 2 ^ 60) : (n : Int) < 2 ^ 63 := by exact Aa 0x10000000000000000d2a064080000000000000034a90852808422 rt h hm
theorem JV {μ : Type} (mf : Nat → ι → κ → μ → AU) (Lf : Nat → ι → κ → μ → Ai) (I : Nat → ι → κ → μ → Prop) {z₀ : μ} {Ok : Ai → Prop} (h0 : I 0 x₀ y₀ z₀) (hm : m = mf 0 x₀ y₀ z₀) (hL : L = Lf 0 x₀ y₀ z₀)
  (step : ∀ (J : QS) i p x y z, ps[i]? = some p → I i x y z → (∀ x2 y2 z2 L', I (i + 1) x2 y2 z2 → L' = Lf (i + 1) x2 y2 z2 → J (mf (i + 1) x2 y2 z2) L') → Ok (Lf i x y z) ∧ WAs X A env nm (mf i x y z) (assign target env) p (Lf i x y z) (KSq X A env nm J Qr Qn J body))
  (last : ∀ x y z, I ps.length x y z → Ok (Lf ps.length x y z) ∧ WS X A env nm (mf ps.length x y z) (execs orelse env) (Lf ps.length x y z) Qn Qr Qb Qc) : KFo X A env nm m target body orelse Qn Qr Qb Qc ps Ok L := by
 refine ⟨fun i m L => ∃ x y z, I i x y z ∧ m = mf i x y z ∧ L = Lf i x y z, ⟨x₀, y₀, z₀, h0, hm, hL⟩, fun i p m' L' hp hJ => ?_, fun m' L' hJ => ?_⟩
 ·refine BZ (fun x y z hI e1 e2 => ?_) hJ
  subst e1 e2
  exact step _ i p x y z hp hI fun x2 y2 z2 L' a b => ⟨x2, y2, z2, a, rfl, b⟩
 ·refine BZ (fun x y z hI e1 e2 => ?_) hJ
  subst e1 e2
  exact last x y z hI
theorem Ed (mf : Nat → Nat → Option PV → AU) (I : Nat → Nat → Prop) (μ : Nat → Nat → Nat) {a₀ b₀ : Nat} {q₀ : Option PV} (h0 : I a₀ b₀) (hm : m = mf a₀ b₀ q₀)
  (step : ∀ (J : QS) a b q, I a b → (∀ a' b' q', μ a' b' < μ a b → I a' b' → J (mf a' b' q') L) → WT X A env nm (mf a b q) (isTrue test env (eval test env)) L (fun L1 => WS X A env nm (mf a b q) (execs body env) L1 J Qr (fun m' L' => Qn m' L') J) fun L1 => Qn (mf a b q) L1) :
  WS X A env nm m (exec (.While test body [] pos) env) L Qn Qr Qb Qc := by
 refine IS (fun n m' L' => ∃ a b q, m' = mf a b q ∧ L' = L ∧ n = μ a b ∧ I a b) (μ a₀ b₀) ⟨a₀, b₀, q₀, hm, rfl, rfl, h0⟩ fun n m' L' x => ?_
 refine Nd (fun a b q e1 e2 e3 hI => ?_) x
 subst e1 e2 e3
 exact step _ a b q hI fun a' b' q' hl hI' => ⟨μ a' b', hl, a', b', q', rfl, rfl, rfl, hI'⟩
structure BI (f : Nat → Bool) (c : Bool) (lo hi a b : Nat) : Prop where
 h1 : lo ≤ a
 h2 : a ≤ b
 h3 : b ≤ hi
 h4 : ∀ i, lo ≤ i → i < a → f i = !c
 h5 : ∀ i, b ≤ i → i < hi → f i = c
theorem BI.start {c : Bool} (h : lo ≤ hi) : BI f c lo hi lo hi := ⟨le_refl _, h, le_refl _, fun i h1 h2 => absurd h2 (Nat.not_lt_of_le h1), fun i h1 h2 => absurd h2 (Nat.not_lt_of_le h1)⟩
theorem G9 {a b : Nat} (h : a < b) : a ≤ (a + b) / 2 := by lia
theorem DH {a b : Nat} (h : a < b) : (a + b) / 2 < b := by lia
theorem BI.down {c : Bool} {a b : Nat} (I : BI f c lo hi a b) (hm : ∀ i j, lo ≤ i → i ≤ j → j < hi → f i = c → f j = c) (hab : a < b) (h : f ((a + b) / 2) = c) : (a + b) / 2 - a < b - a ∧ BI f c lo hi a ((a + b) / 2) :=
 ⟨Nat.sub_lt_sub_right (G9 hab) (DH hab), I.h1, G9 hab, le_trans (le_of_lt (DH hab)) I.h3, I.h4, fun i g1 g2 => hm _ i (le_trans I.h1 (G9 hab)) g1 g2 h⟩
theorem BI.up {c : Bool} {a b : Nat} (I : BI f c lo hi a b) (hm : ∀ i j, lo ≤ i → i ≤ j → j < hi → f i = c → f j = c) (hab : a < b) (h : f ((a + b) / 2) = !c) : b - ((a + b) / 2 + 1) < b - a ∧ BI f c lo hi ((a + b) / 2 + 1) b := by
 refine ⟨Nat.sub_lt_sub_left hab (Nat.lt_succ_of_le (G9 hab)), Nat.le_succ_of_le (le_trans I.h1 (G9 hab)), DH hab, I.h3, fun i g1 g2 => ?_, I.h5⟩
 have q : ¬ f i = c := fun e => by
  have := hm i _ g1 (Nat.le_of_lt_succ g2) (lt_of_lt_of_le (DH hab) I.h3) e
  rw [h] at this; revert this; cases c <;> decide
 revert q; cases f i <;> cases c <;> decide
theorem BI.fin {c : Bool} {a b : Nat} (I : BI f c lo hi a b) (hab : ¬ (a : Int) < (b : Int)) : b = a := le_antisymm (RC hab) I.h2
section
open PySem.SeqAt
theorem Rl {T : Ty} {d : Dt} {es : List Dt} (x : DOf L p d) (y : CO L qs es) (kd : T.ok d) (ke : ∀ x ∈ es, T.ok x) (hu : A.units + T.depth + 1 < cLine)
  (h : ∀ b, (b = true ↔ d ∈ es) → Q (.bool b) L) : CR X A (compareOp .In) p (.tup qs) L Q := fun Z s E u v P Va Vb => by
 apply Dd Vb; intro b ws n2 hb _ r2
 have ht : s.heap.IsTuple b ws.toArray := ⟨_, hb, rfl, n2, rfl⟩
 refine F9 (fun e h1 h2 _ => ?_) <| Jd (A := A) ke kd (CC P y r2) (JX P x Va) hu
 exact in_tupleAt e ht h1 (.keeps P (Ag s) (Bc _) (h _ h2))
theorem Pm {T : Ty} {d : Dt} {es : List Dt} (x : DOf L p d) (y : CO L qs es) (kd : T.ok d) (ke : ∀ x ∈ es, T.ok x) (hu : A.units + T.depth + 1 < cLine)
  (ht : d ∈ es → Qt L) (hf : d ∉ es → Qf L) : Bu X A .In p (.tup qs) L Qt Qf := by
 classical
 exact Cc (b := decide (d ∈ es)) (fun h => Rl x y kd ke hu fun b hb => by
  have : b = decide (d ∈ es) := by rw [Bool.eq_iff_iff, hb]; simp
  rw [this]; exact h) (fun h => ht (by simpa using h)) fun h => hf (by simpa using h)
end
theorem wa_nm {k : NameKind} {Q : QS} (S : Stn nm m x k p m') (hk : k = .local ∨ k = .cell) (h : Q m' L) : WAs X A env nm m (assign (.Name x pos) env) p L Q := NO (AJ S hk h)
theorem Q7 (hp : p.ctorIdx.beq (PV.val .none).ctorIdx = false) (hn : p.isNone = false) (h : Qf L) : Bu X A .Is p .none L Qt Qf := LQ (fun x e => by subst e; cases hp) hn h
theorem bk_l {p q : α → Prop} {a : α} {l : List α} (h : p a) (t : ∀ x ∈ l, p x ∨ q x) : ∀ x ∈ a :: l, p x ∨ q x := List.forall_mem_cons.mpr ⟨.inl h, t⟩
theorem bk_r {p q : α → Prop} {a : α} {l : List α} (h : q a) (t : ∀ x ∈ l, p x ∨ q x) : ∀ x ∈ a :: l, p x ∨ q x := List.forall_mem_cons.mpr ⟨.inr h, t⟩
section
open Lean
def IX (k : String) (a : List Syntax) : Syntax := .node .none k.toName ⟨a⟩
def wAt : Syntax := .atom .none ""
def OE (k : String) (a : List Syntax) : Syntax := IX ("Lean.Parser.Tactic." ++ k) (wAt :: a)
def wSq (l : List Syntax) : Syntax := IX "Lean.Parser.Tactic.tacticSeq" [IX "Lean.Parser.Tactic.tacticSeq1Indented" [IX "null" l]]
def wWk (s : String) : Syntax := IX "PyProof.Rows.tacticWalk_at_" [wAt, (Syntax.mkStrLit s).raw]
def wFs (l : List Syntax) : Syntax := OE "first" [IX "null" (l.map fun t => IX "group" [wAt, wSq [t]])]
def wGr (h : Name) (s : String) : Syntax :=
 let q := s.splitOn " "
 let c := q.headD ""
 let ns := q.tail
 let d := String.ofList (c.toList.take 1)
 if d == "@" then OE "tacticRepeat_" [wSq (ns.map wWk)] else
 if d == "=" then OE (ns.headD "") [IX "Lean.Parser.Tactic.optConfig" [IX "null" []]] else
 let cs := (c.toList.drop 1).zipIdx.map fun (c, i) => (c.toString, h.modifyBase (·.str (toString i)))
 let one (k : Nat) (n : String) := OE (if d == "." || d == ":" then "refine" else "refine'") [IX "Lean.Parser.Term.app" [(mkIdent n.toName).raw, IX "null" (cs.map fun (c, n) =>
  if c == "R" then (mkIdent `rfl).raw else if c == "#" then (Syntax.mkNumLit (toString k)).raw else
  IX "Lean.Parser.Term.syntheticHole" [wAt, if c == "_" then .atom .none "_" else (mkIdent n).raw])]]
 let f := wFs (((List.range (if c.contains '#' then 80 else 1)).map fun k => ns.map (one k)).flatten)
 let f := if d == "." || d == "," then OE "withReducible" [wSq [f]] else f
 OE "paren" [wSq (f :: (cs.map fun (c, n) => if c == "_" || c == "R" || c == "#" then [] else
  [wAt, OE "case" [IX "null" [IX "Lean.Parser.Tactic.caseArg" [IX "Lean.binderIdent" [(mkIdent n).raw], IX "null" []]], wAt, wSq [wWk c]]]).flatten), wAt]
def wTb : List (String × String) := [
 ("l", ":#RR Rn"), ("s", ":#R stAt"), ("r", ": rfl"), ("a", "= assumption"), ("d", "= decide"), ("D", "= decide|= lia"),
 ("m", ":_ List.Mem.head|:_m List.Mem.tail"),
 ("g", ";am AA.get"), ("o", ":R Or.inl Or.inr"),
 ("b", ":_ List.forall_mem_nil|;mb bk_l|;mb bk_r"),
 ("i", ": Eu.nil|:i Eu.open_|;gi Eu.glob|;moi Eu.param"),
 ("c", ": Cr.nil|:c Cr.loc|;loc Cr.fre|;gc Cr.glob"),
 ("k", ";ar Pz"), ("n", ";sd_ wa_nm"), ("W", "@ w"),
 ("w", "._ Ab AC Oh HB RH QH QC OF we_un we_if RJ RL Lj OL OM Og GQ Oi MS Q5 OH OI Rb RF Q8 QA neg_i Qg PY gt_ii Pw Pr Q0 Ps Pn kp_b kp_t kp_l|.__ Fb Rf cgt_ii Re Rc Rg Rd Rh LT cin_s|._r Q6|.r_ Br RG QB Nb Id|,l_ QG RK|._d RI|,_rrrr QF QD QI|,_rrr we_meth0 we_call0|.D_ Ri RA|.rr_ Q7|,sd_ AJ|.k_ And.intro")]
def wGo (s : String) : MacroM Syntax := do
 let some t := wTb.lookup s | Macro.throwUnsupported
 let h ← Macro.addMacroScope `h
 return wFs ((t.splitOn "|").map (wGr h))
end
noncomputable def S2 (ts : Nat) : Nat → List Nat → Nat
 | _, [] => 0
 | i, v :: l => i / ts * v + S2 ts (i + 1) l
theorem EY (ts : Nat) : ∀ (l r : List Nat) (i : Nat), S2 ts i (l ++ r) = S2 ts i l + S2 ts (i + l.length) r
 | [], r, i => by simp [S2]
 | v :: l, r, i => by
  simp only [cons_append, S2, EY ts l r (i + 1), length_cons]
  rw [show i + 1 + l.length = i + (l.length + 1) by exact GH 0x489020090910000820 rt]
  exact Ez 0xa4a0005240800820 rt
theorem JK (ts : Nat) : ∀ (k i : Nat), S2 ts i (replicate k 0) = 0
 | 0, _ => rfl
 | k + 1, i => by simp [replicate_succ, S2, JK ts k]
theorem Ls (ts : Nat) : ∀ (l : List Nat) (i b : Nat), b < l.length → S2 ts i (l.set b (l.getD b 0 + 1)) = S2 ts i l + (i + b) / ts
 | [], _, _, h => by simp at h
 | v :: l, i, 0, h => by
  simp only [List.set_cons_zero, List.getD_cons_zero, S2, Nat.mul_add, Nat.mul_one, Nat.add_zero]
  exact Ez 0x9520005250000820 rt
 | v :: l, i, b + 1, h => by
  simp only [List.set_cons_succ, List.getD_cons_succ, S2]
  rw [Ls ts l (i + 1) b (by simpa using h), show i + 1 + b = i + (b + 1) by exact GH 0x489020090910000820 rt]
  exact Ez 0xa4a0005240800820 rt
theorem Ja (ts : Nat) : ∀ (l : List Nat) (i : Nat), i + l.length ≤ ts → S2 ts i l = 0
 | [], _, _ => rfl
 | v :: l, i, h => by
  simp only [length_cons] at h
  simp only [S2, Nat.div_eq_of_lt (show i < ts by exact AB 0x1480a8244810000421 rt h), Nat.zero_mul, zero_add]
  exact Ja ts l (i + 1) (by exact AB 0x292122000028244810000421 rt h)
theorem Lu (ts : Nat) : ∀ (l : List Nat) (i : Nat), ((List.range l.length).map fun j => (i + j) / ts * l.getD j 0).sum = S2 ts i l
 | [], _ => rfl
 | v :: l, i => by
  rw [length_cons, List.range_succ_eq_map, map_cons, sum_cons, map_map]
  have : ((List.range l.length).map ((fun j => (i + j) / ts * (v :: l).getD j 0) ∘ Nat.succ)).sum = S2 ts (i + 1) l := by
   rw [← Lu ts l (i + 1)]
   congr 1
   refine map_congr_left fun j _ => ?_
   simp only [Function.comp, Nat.succ_eq_add_one, List.getD_cons_succ]
   rw [show i + (j + 1) = i + 1 + j by exact GH 0x2424400012240800820 rt]
  rw [this]
  simp [S2]
theorem Gt (st : Wst) (ts : Nat) : GV st ts = st.b + ts * (S2 ts 0 st.count + st.nt) := by
 unfold GV
 have h1 : ((List.range (st.count.length - ts)).map fun j => (ts + j) / ts * st.count.getD (ts + j) 0).sum = S2 ts 0 st.count := by
  rcases le_total st.count.length ts with h | h
  ·rw [Nat.sub_eq_zero_of_le h, Ja ts st.count 0 (by exact Aa 0x4a0040012800421 rt h)]; rfl
  ·have e : st.count = st.count.take ts ++ st.count.drop ts := (take_append_drop ts st.count).symm
   have h2 : S2 ts 0 st.count = S2 ts ts (st.count.drop ts) := by
    conv => lhs; rw [e]
    rw [EY, Ja ts (st.count.take ts) 0 (by rw [length_take]; exact Aa 0x4a0040012800421 rt (min_le_left _ _)), length_take, min_eq_left h, zero_add, zero_add]
   rw [h2, ← Lu ts (st.count.drop ts) ts, length_drop]
   congr 1
   refine map_congr_left fun j _ => ?_
   simp [getD_eq_getElem?_getD]
 rw [h1]
theorem Mo {st st' : Wst} {ts : Nat} (h : 0 < ts) (hc : CM st c = some st') : GV st' ts = if c = 32 then GV st ts + 1 else (GV st ts / ts + 1) * ts := by
 unfold CM at hc
 split at hc
 ·rename_i h32
  cases hc
  rw [if_pos h32, Gt, Gt]
  dsimp only
  exact GH 0x489400090910000820 rt
 ·rename_i h32
  split at hc
  ·cases hc
   rw [if_neg h32, Gt, Gt]
   dsimp only
   generalize hct : (if st.count.length ≤ st.b then st.count ++ replicate (st.b - st.count.length + 1) 0 else st.count) = ct
   have hb : st.b < ct.length := by
    rw [← hct]; split
    ·simp; exact AB 0x9100481415250014021 rt (sub_add_cancel (Aa 0x94012800421 rt ‹_›))
    ·exact Aa 291414873408545 rt ‹_›
   have hs : S2 ts 0 ct = S2 ts 0 st.count := by
    rw [← hct]; split
    ·rw [EY, JK]; exact IW 275020515360 rt
    ·rfl
   rw [Ls ts ct 0 st.b hb, hs, zero_add, zero_add, Nat.add_mul_div_left _ _ h, Nat.mul_comm]
   congr 1
   exact Ez 0x48a401200048a0250000820 rt
  ·cases hc
theorem JY {ts : Nat} (h : 0 < ts) : ∀ (x r : List Nat) (st : Wst), (∀ c ∈ x, c = 32 ∨ c = 9) → GV (Er st (x ++ 120 :: r)) ts = x.foldl (fun c s => if s = 32 then c + 1 else (c / ts + 1) * ts) (GV st ts)
 | [], r, st, _ => by
  have : CM st 120 = none := by unfold CM; simp
  simp [Er, this]
 | c :: x, r, st, hx => by
  have hc := hx c (.head _)
  obtain ⟨st', hs⟩ : ∃ st', CM st c = some st' := by
   unfold CM
   rcases hc with rfl | rfl <;> simp
  rw [cons_append]
  unfold Er
  rw [hs]
  rw [JY h x r st' fun c hc => hx c (.tail _ hc), foldl_cons, Mo h hs]
theorem MP {ts : Nat} (h : 0 < ts) (x : List Nat) (hx : ∀ c ∈ x, c = 32 ∨ c = 9) : GV (EU (x ++ [120, 32, 9])) ts = Ej x ts := by
 unfold EU Ej
 rw [JY h x [32, 9] _ hx]
 congr 1
 rw [Gt]; simp [S2]
noncomputable def Mx : List (List Nat) := [[], [32], [9, 32], [32, 32, 9], [32, 9, 32, 32], [32, 32, 32, 9, 32]]
def ED : List (List Nat) := [[], [32], [9]]
def B6 (ls : List (List Nat)) : List Nat := ls.getLastD []
def EE (n0 : Nat) (x : List Nat) (v : Nat) : Nat := x.length - v % (x.length - n0 + 1)
noncomputable def Bq (n0 : Nat) (ls : List (List Nat)) (v : Nat) : List (List Nat) := ls ++ [(B6 ls).take (EE n0 (B6 ls) v) ++ ED.getD (v / 60 % 3) []]
def BN (d0 : Nat) : List Nat := Mx.getD (d0 / 3 % 6) []
def Ba (d0 : Nat) (vs : List Nat) : List (List Nat) := vs.foldl (Bq (BN d0).length) [BN d0]
def Wht (x : List Nat) : Prop := ∀ c ∈ x, c = 32 ∨ c = 9
structure Ca (x0 : List Nat) (ls : List (List Nat)) : Prop where
 hd : ls.head? = some x0
 ok : ∀ x ∈ ls, x0.length ≤ x.length ∧ x.length ≤ 5 + ls.length ∧ Wht x
theorem Ca.ne (h : Ca x0 ls) : ls ≠ [] := fun e => by have := h.hd; rw [e] at this; cases this
theorem Fd (h : ls ≠ []) : B6 ls ∈ ls := by
 unfold B6
 rw [List.getLastD_eq_getLast?, List.getLast?_eq_some_getLast h]
 exact List.getLast_mem h
theorem Mu (h : ls ≠ []) : (ls.map PV.str)[((-1 : Int) + ((ls.map PV.str).length : Nat)).toNat]? = some (.str (B6 ls)) := by
 have hp : 0 < ls.length := List.length_pos_iff.mpr h
 rw [length_map, show ((-1 : Int) + (ls.length : Nat)).toNat = ls.length - 1 by exact Ez 0x148124245004148c24101032c022 rt (toNat_of_nonneg (Aq 0x40c24100041a00408421 rt hp)) (sub_add_cancel (Aq 9046790267503649 rt hp)), getElem?_map, ← List.getLast?_eq_getElem?]
 unfold B6
 rw [List.getLastD_eq_getLast?, List.getLast?_eq_some_getLast h]
 rfl
theorem HK (v : Nat) : (ED.getD (v / 60 % 3) []).length ≤ 1 ∧ Wht (ED.getD (v / 60 % 3) []) := by
 have : v / 60 % 3 < 3 := mod_lt _ (by decide)
 generalize v / 60 % 3 = k at this
 unfold Wht
 rcases k with _ | _ | _ | k
 ·decide
 ·decide
 ·decide
 ·lia
theorem I4 (d : Nat) : (BN d).length ≤ 5 ∧ Wht (BN d) := by
 unfold BN
 have : d / 3 % 6 < 6 := mod_lt _ (by decide)
 generalize d / 3 % 6 = k at this
 unfold Wht
 rcases k with _ | _ | _ | _ | _ | _ | k
 ·decide
 ·decide
 ·decide
 ·decide
 ·decide
 ·decide
 ·lia
theorem Ca.step (h : Ca x0 ls) (v : Nat) : Ca x0 (Bq x0.length ls v) := by
 obtain ⟨h1, h2, h3⟩ := h.ok _ (Fd h.ne)
 have hm := mod_lt v (show 0 < (B6 ls).length - x0.length + 1 by exact AB 0x48a000814a1401412800422 rt h1 (sub_add_cancel (Aa 0x94012800421 rt h1)))
 obtain ⟨e1, e2⟩ := HK v
 constructor
 ·have := h.hd
  unfold Bq
  rw [List.head?_append, this]; rfl
 ·intro x hx
  unfold Bq at hx ⊢
  rw [length_append]
  rcases List.mem_append.mp hx with hx | hx
  ·obtain ⟨a, b, c⟩ := h.ok x hx
   exact ⟨a, by exact AB 0xa480a4020092900800421 rt b, c⟩
  ·rw [List.mem_singleton.mp hx, length_append, length_take]
   have hk : EE x0.length (B6 ls) v ≤ (B6 ls).length ∧ x0.length ≤ EE x0.length (B6 ls) v := by unfold EE; exact ⟨Aa 0x94012800421 rt (sub_le _ _), FE 0x5b00a624020a160500212240808423 rt hm Qd (sub_add_cancel (Aa 0x94012800421 rt h1))⟩
   refine ⟨by lia, by simp only [length_cons, length_nil]; exact B7 0x9004024052014b0010b00424500292900800423 rt h2 e1 (min_le_right _ _), fun c hc => ?_⟩
   rcases List.mem_append.mp hc with hc | hc
   ·exact h3 c (mem_of_mem_take hc)
   ·exact e2 c hc
theorem Ca.zero (d : Nat) : Ca (BN d) [BN d] := ⟨rfl, fun x hx => by rw [List.mem_singleton.mp hx]; exact ⟨le_refl _, by have := (I4 d).1; simp only [length_cons, length_nil]; exact Aq 0x120080290080148800421 rt this, (I4 d).2⟩⟩
theorem Ca.fold : ∀ (vs : List Nat) {ls : List (List Nat)}, Ca x0 ls → Ca x0 (vs.foldl (Bq x0.length) ls)
 | [], _, h => h
 | v :: vs, _, h => Ca.fold vs (h.step v)
theorem Hy (x0 : Nat) : ∀ (vs : List Nat) (ls : List (List Nat)), (vs.foldl (Bq x0) ls).length = ls.length + vs.length
 | [], _ => rfl
 | v :: vs, ls => by
  rw [foldl_cons, Hy x0 vs, Bq, length_append, length_cons]
  simp only [length_cons, length_nil]; exact GH 0x2448100484802010000820 rt
theorem DX (d : Nat) (vs : List Nat) : Ca (BN d) (Ba d vs) := .fold vs (.zero d)
theorem Ex (d : Nat) (vs : List Nat) : (Ba d vs).length = vs.length + 1 := by unfold Ba; rw [Hy]; simp; exact IW 0x4880202400820 rt
theorem MZ : ∀ (l : List Nat) (st : Wst) (K : Nat), st.count.length ≤ K → st.b + l.length ≤ K → (Er st l).count.length ≤ K
 | [], _, _, h, _ => h
 | c :: l, st, K, h1, h2 => by
  unfold Er
  rw [length_cons] at h2
  cases hc : CM st c with
  | none => exact h1
  | some st' =>
   refine MZ l st' K ?_ ?_
   all_goals
    unfold CM at hc
    split at hc
    ·cases hc; dsimp only; (first | exact Aa 0x94012800421 rt h1 | exact AB 0x292122000028244810000421 rt h2)
    ·split at hc
     ·cases hc
      dsimp only
      first
      | lia
      | (rw [List.length_set]; split; (rw [length_append, length_replicate]; lia); lia)
     ·cases hc
theorem MW (x : List Nat) : (EU x).count.length ≤ x.length := MZ x _ _ (zero_le _) (by simp)
def CA (size : Nat) (ls : List (List Nat)) : List Nat := ls.map fun x => Ej x size
noncomputable def Co (size d : Nat) : List (Nat × Bool) := (List.range (size + 1)).map fun s => (d + s, s == 0)
def Am (size : Nat) (ds : List Nat) : List (Nat × Bool) := ds.flatMap (Co size)
theorem DF (size : Nat) : ∀ ds : List Nat, (Am size ds).length = ds.length * (size + 1)
 | [] => by simp [Am]
 | d :: ds => by
  have := DF size ds
  unfold Am at this ⊢
  rw [flatMap_cons, length_append, this, length_cons, succ_mul]
  simp [Co]; exact GH 0x488024090910000820 rt
def FR (X : Cx) (cv : PV) : Prop := (∃ a b c, cv = .lam a b c) ∧ ∀ (A : Around) (L : Ai) (x : Int) (s : List Nat) (Q : QE), A.depth < recursionLimit → Q (.int x) L → As X A cv [.tup [.int x, .str s]] [] L Q
theorem IJ (l : List α) : pick l none none (some (-1)) = l.reverse := by
 unfold pick
 rw [krv_bounds]
 show (sliceRange ((l.length : Int) - 1) (-1) (-1)).filterMap (l[·]?) = _
 rw [krv_sliceRange, krv_range, List.filterMap_reverse]
 congr 1
 have := krv_all l.toArray
 simpa using this
noncomputable def thE (as : List Addr) (fl : List (Nat × Bool)) : Ai := List.zipWith (fun a f => (a, AO.list [.int f.1])) as fl
theorem MO {f : Nat × Bool} (h : as.length = fl.length) : thE (as ++ [a]) (fl ++ [f]) = thE as fl ++ [(a, AO.list [.int f.1])] := by
 unfold thE
 rw [List.zipWith_append h]
 rfl
noncomputable def Al (k : α → Nat) (B : Nat) (l : List α) : List α := (List.range B).flatMap fun c => l.filter fun y => k y == c
noncomputable def Ek (k : α → Nat) (a n : Nat) (l : List α) : List α := (range' a n).flatMap fun c => l.filter fun y => k y == c
theorem B2 (k : α → Nat) (h : c < B) (l : List α) : Al k B l = Ek k 0 c l ++ (l.filter (fun y => k y == c) ++ Ek k (c + 1) (B - c - 1) l) := by
 unfold Al Ek
 have e : List.range B = range' 0 c ++ (c :: range' (c + 1) (B - c - 1)) := by
  rw [List.range_eq_range', show B = c + (B - c - 1 + 1) by rw [sub_add_cancel (Nat.sub_pos_of_lt h), Nat.add_sub_of_le (le_of_lt h)], ← List.range'_append_1, zero_add, show c + (B - c - 1 + 1) - c - 1 = B - c - 1 by rw [Nat.add_sub_cancel_left, Nat.add_sub_cancel]]
  rfl
 rw [e, flatMap_append, flatMap_cons]
theorem Cl {k : α → Nat} {a : Nat} {l : List α} {y : α} (h : y ∈ Ek k a n l) : a ≤ k y ∧ k y < a + n ∧ y ∈ l := by
 unfold Ek at h
 obtain ⟨c, hc, hy⟩ := List.mem_flatMap.mp h
 obtain ⟨h1, h2⟩ := List.mem_filter.mp hy
 have := List.mem_range'_1.mp hc
 have h3 : k y = c := by simpa using h2
 exact ⟨by exact AB 0xa4012a1412800422 rt this.1 h3, by exact B7 0xa4816142c415240808422 rt this.2 h3, h1⟩
theorem BW {k : α → Nat} {l : List α} {y : α} (h : y ∈ Al k B l) : y ∈ l := by
 unfold Al at h
 obtain ⟨c, hc, hy⟩ := List.mem_flatMap.mp h
 exact (List.mem_filter.mp hy).1
theorem Cm {k : α → Nat} {a : Nat} {l : List α} {x : α} (h : k x < a ∨ a + n ≤ k x) : Ek k a n (l ++ [x]) = Ek k a n l ∧ Ek k a n (x :: l) = Ek k a n l := by
 unfold Ek
 constructor
 all_goals
  rw [List.flatMap_def, List.flatMap_def]
  congr 1
  refine map_congr_left fun c hc => ?_
  have := List.mem_range'_1.mp hc
  have hne : (k x == c) = false := by simp; lia
  first
  | rw [filter_append, filter_cons, hne]; simp
  | rw [filter_cons, hne]; simp
theorem DM : ∀ (O : List α) (r : Nat) (p : α → Bool), (∀ i y, O[i]? = some y → (i < r ↔ p y = true)) → O.take r = O.filter p ∧ O.drop r = O.filter (fun y => !p y)
 | [], r, p, _ => by simp
 | y :: O, 0, p, h => by
  have : ∀ z ∈ y :: O, p z = false := fun z hz => by
   obtain ⟨i, hi⟩ := List.mem_iff_getElem?.mp hz
   have := h i z hi
   cases hp : p z with
   | false => rfl
   | true => exact absurd (this.mpr hp) (Nat.not_lt_zero _)
  rw [take_zero, drop_zero]
  constructor
  ·exact (List.filter_eq_nil_iff.mpr fun z hz => by rw [this z hz]; decide).symm
  ·exact (List.filter_eq_self.mpr fun z hz => by rw [this z hz]; rfl).symm
 | y :: O, r + 1, p, h => by
  have hp : p y = true := (h 0 y rfl).mp (succ_pos _)
  obtain ⟨h1, h2⟩ := DM O r p fun i z hz => by
   rw [← h (i + 1) z (by rw [List.getElem?_cons_succ]; exact hz)]; exact ⟨fun ha => Aa 0x489004880052808421 rt ha, fun ha => Aa 0x2501091200910008421 rt ha⟩
  rw [take_succ_cons, List.drop_succ_cons, filter_cons, filter_cons, hp, h1, h2]
  simp
theorem Cj {p : α → Bool} {l : List α} (h : ∀ y ∈ l, p y = true) : l.filter p = l := List.filter_eq_self.mpr h
theorem Bd {p : α → Bool} {l : List α} (h : ∀ y ∈ l, p y = false) : l.filter p = [] := List.filter_eq_nil_iff.mpr fun z hz => by rw [h z hz]; decide
theorem IG {k : α → Nat} {r : Nat} {x : α} {l : List α} (hx : k x < B) (hr : ∀ i y, (Al k B l)[i]? = some y → (i < r ↔ decide (k y ≤ k x) = true)) : (Al k B l).take r ++ x :: (Al k B l).drop r = Al k B (l ++ [x]) := by
 obtain ⟨h1, h2⟩ := DM _ _ _ hr
 rw [h1, h2, B2 k hx l, B2 k hx (l ++ [x]), (Cm (k := k) (a := 0) (n := k x) (by exact .inr (Aq 283472035872 rt))).1, (Cm (k := k) (a := k x + 1) (n := B - k x - 1) (by exact .inl (Aq 38923404320 rt))).1]
 have a1 : ∀ y ∈ Ek k 0 (k x) l, decide (k y ≤ k x) = true := fun y hy => by have := Cl hy; simp; exact Aa 0x4a0090100808421 rt this.2.1
 have a2 : ∀ y ∈ l.filter (fun y => k y == k x), decide (k y ≤ k x) = true := fun y hy => by have := (List.mem_filter.mp hy).2; simp at this; simp; exact Aa 0x94012810421 rt this
 have a3 : ∀ y ∈ Ek k (k x + 1) (B - k x - 1) l, decide (k y ≤ k x) = false := fun y hy => by have := Cl hy; simp; exact Aa 0x4a0290910000421 rt this.1
 simp only [filter_append]
 rw [Cj a1, Cj a2, Bd a3, Bd (p := fun y => !decide (k y ≤ k x)) (fun y hy => by rw [a1 y hy]; rfl), Bd (p := fun y => !decide (k y ≤ k x)) (fun y hy => by rw [a2 y hy]; rfl), Cj (p := fun y => !decide (k y ≤ k x)) (fun y hy => by rw [a3 y hy]; rfl)]
 simp
theorem IF {k : α → Nat} {r : Nat} {x : α} {l : List α} (hx : k x < B) (hr : ∀ i y, (Al k B l)[i]? = some y → (i < r ↔ decide (k y < k x) = true)) : (Al k B l).take r ++ x :: (Al k B l).drop r = Al k B (x :: l) := by
 obtain ⟨h1, h2⟩ := DM _ _ _ hr
 rw [h1, h2, B2 k hx l, B2 k hx (x :: l), (Cm (k := k) (a := 0) (n := k x) (by exact .inr (Aq 283472035872 rt))).2, (Cm (k := k) (a := k x + 1) (n := B - k x - 1) (by exact .inl (Aq 38923404320 rt))).2]
 have a1 : ∀ y ∈ Ek k 0 (k x) l, decide (k y < k x) = true := fun y hy => by have := Cl hy; simp; exact Aa 0x4a0290100808421 rt this.2.1
 have a2 : ∀ y ∈ l.filter (fun y => k y == k x), decide (k y < k x) = false := fun y hy => by have := (List.mem_filter.mp hy).2; simp at this; simp; exact Aa 9105641127969 rt this
 have a3 : ∀ y ∈ Ek k (k x + 1) (B - k x - 1) l, decide (k y < k x) = false := fun y hy => by have := Cl hy; simp; exact Aa 0x4a0090910000421 rt this.1
 simp only [filter_append]
 rw [Cj a1, Bd a2, Bd a3, Bd (p := fun y => !decide (k y < k x)) (fun y hy => by rw [a1 y hy]; rfl), Cj (p := fun y => !decide (k y < k x)) (fun y hy => by rw [a2 y hy]; rfl), Cj (p := fun y => !decide (k y < k x)) (fun y hy => by rw [a3 y hy]; rfl)]
 simp
theorem CG {k : α → Nat} {l : List α} {y z : α} (h1 : (Al k B l)[i]? = some y) (h2 : (Al k B l)[j]? = some z) (hij : i ≤ j) : k y ≤ k z := by
 have hp : (Al k B l).Pairwise fun a b => k a ≤ k b := by
  unfold Al
  rw [List.pairwise_flatMap]
  refine ⟨fun c _ => ?_, ?_⟩
  ·refine List.pairwise_of_forall_mem_list fun a ha b hb => ?_
   have q1 := (List.mem_filter.mp ha).2
   have q2 := (List.mem_filter.mp hb).2
   simp at q1 q2; exact AB 0xa4012a1412810422 rt q1 q2
  ·refine List.pairwise_lt_range.imp fun {a b} hab y hy z hz => ?_
   have q1 := (List.mem_filter.mp hy).2
   have q2 := (List.mem_filter.mp hz).2
   simp at q1 q2; exact B7 0xb5012b1410a1052808423 rt hab q1 q2
 rcases lt_or_ge i j with h | h
 ·obtain ⟨hi, rfl⟩ := List.getElem?_eq_some_iff.mp h1
  obtain ⟨hj, rfl⟩ := List.getElem?_eq_some_iff.mp h2
  exact List.pairwise_iff_getElem.mp hp i j hi hj h
 ·obtain rfl : i = j := by exact le_antisymm (Aa 0x94012800421 rt hij) (Aa 0x94012800421 rt h)
  rw [h1] at h2
  cases h2
  exact le_refl _
theorem CV (k : α → Nat) (B : Nat) : ∀ l : List α, (∀ y ∈ l, k y < B) → (Al k B l).length = l.length
 | [], _ => by rw [show Al k B ([] : List α) = [] from List.flatMap_eq_nil_iff.mpr fun _ _ => rfl]
 | x :: l, h => by
  have hx := h x (.head _)
  rw [B2 k hx (x :: l), (Cm (k := k) (a := 0) (n := k x) (by exact .inr (Aq 283472035872 rt))).2, (Cm (k := k) (a := k x + 1) (n := B - k x - 1) (by exact .inl (Aq 38923404320 rt))).2]
  have := CV k B l fun y hy => h y (.tail _ hy)
  rw [B2 k hx l] at this
  simp only [length_append, filter_cons, beq_self_eq_true, if_true, length_cons] at this ⊢
  exact q40 0x48b02824480080096a4810014021 rt this
theorem NC (k : α → Nat) (g : β → α) (B : Nat) (l : List β) : (Al (fun y => k (g y)) B l).map g = Al k B (l.map g) := by
 unfold Al
 rw [List.map_flatMap]
 congr 1
 funext c
 rw [List.filter_map]
 rfl
abbrev Zm : Type := (Nat × Bool) × Addr
variable {zl : List Zm}
noncomputable def zE (z : Zm) : Addr × AO := (z.2, .list [.int z.1.1])
noncomputable def zE2 (z : Zm) : Addr × AO := (z.2, .list [.int z.1.1, .str (sgn z.1.2)])
noncomputable def G1 (zl : List Zm) (i : Nat) (L : Ai) : Ai := ((zl.drop i).map zE).reverse ++ (((zl.take i).map zE2).reverse ++ L)
theorem I7 {o : AO} {Q : Ai} : ∀ P : Ai, BQ (P ++ (a, o) :: Q) a o o' (P ++ (a, o') :: Q)
 | [] => .here
 | x :: P => .there (I7 P)
theorem KU {z : Zm} (L : Ai) (h : zl[i]? = some z) : BQ (G1 zl i L) z.2 (.list [.int z.1.1]) (.list [.int z.1.1, .str (sgn z.1.2)]) (G1 zl (i + 1) L) := by
 obtain ⟨hi, rfl⟩ := List.getElem?_eq_some_iff.mp h
 have e1 : G1 zl i L = ((zl.drop (i + 1)).map zE).reverse ++ zE zl[i] :: (((zl.take i).map zE2).reverse ++ L) := by
  unfold G1
  rw [drop_eq_getElem_cons hi, map_cons, List.reverse_cons, append_assoc]
  rfl
 have e2 : G1 zl (i + 1) L = ((zl.drop (i + 1)).map zE).reverse ++ zE2 zl[i] :: (((zl.take i).map zE2).reverse ++ L) := by
  unfold G1
  rw [take_add_one, h, map_append, List.reverse_append, append_assoc]
  rfl
 rw [e1, e2]
 exact I7 _
theorem KV (zl : List Zm) (L : Ai) : G1 zl 0 L = (zl.map zE).reverse ++ L := by simp [G1]
theorem My (zl : List Zm) (L : Ai) : G1 zl zl.length L = (zl.map zE2).reverse ++ L := by simp [G1]
theorem ON {z : Zm} (L : Ai) (h : z ∈ zl) : (z.2, AO.list [.int z.1.1]) ∈ (zl.map zE).reverse ++ L := mem_append_left _ (List.mem_reverse.mpr (List.mem_map.mpr ⟨z, h, rfl⟩))
theorem Kz {z : Zm} (L : Ai) (h : z ∈ zl) : (z.2, AO.list [.int z.1.1, .str (sgn z.1.2)]) ∈ (zl.map zE2).reverse ++ L := mem_append_left _ (List.mem_reverse.mpr (List.mem_map.mpr ⟨z, h, rfl⟩))
theorem NN (as : List Addr) (fl : List (Nat × Bool)) : thE as fl = (fl.zip as).map zE := by
 unfold thE
 induction as generalizing fl with
 | nil => cases fl <;> rfl
 | cons a as ih =>
  cases fl with
  | nil => rfl
  | cons f fl => simp [zE, ih]
noncomputable def BH : Bool → List Nat → List (List Nat)
 | true, c :: l => [92, c] :: BH false l
 | false, c :: l => if c = 92 then BH true l else [c] :: BH false l
 | true, [] => [[92]]
 | false, [] => []
abbrev Dn (x : List Nat) : List (List Nat) := BH false x
noncomputable def EO : Nat → List (List Nat) → List (Nat × List Nat)
 | _, [] => []
 | o, u :: us => (o + u.length - 1, u) :: EO (o + u.length) us
theorem DV : ∀ (x : List Nat) (i : Nat), esc i false x = EO i (BH false x) ∧ (0 < i → esc i true x = EO (i - 1) (BH true x))
 | [], i => ⟨rfl, fun h => by simp [esc, BH, EO]⟩
 | c :: l, i => by
  constructor
  ·unfold esc BH
   split
   ·rw [(DV l (i + 1)).2 (by exact Aq 1245540647968 rt)]; rfl
   ·rw [(DV l (i + 1)).1]; rfl
  ·intro h
   unfold esc BH EO
   rw [(DV l (i + 1)).1]
   simp only [length_cons, length_nil]
   rw [show i - 1 + (0 + 1 + 1) - 1 = i by exact Ez 0x5204a091201402409004001200910014022 rt (sub_add_cancel (Aq 0x481200800200120020 rt)) (sub_add_cancel (Aq 9046790267503649 rt h)), show i - 1 + (0 + 1 + 1) = i + 1 by exact GH 0x91200902401000400490910014021 rt (sub_add_cancel (Aq 9046790267503649 rt h))]
theorem CE : ∀ (x : List Nat), (BH false x).flatten = x ∧ (BH true x).flatten = 92 :: x
 | [] => ⟨rfl, rfl⟩
 | c :: l => by
  constructor
  ·unfold BH
   split
   ·rename_i h; rw [(CE l).2, h]
   ·rw [flatten_cons, (CE l).1]; rfl
  ·unfold BH
   rw [flatten_cons, (CE l).1]; rfl
noncomputable def AN : Option (List (List Nat)) → List (List Nat) → List (List Nat)
 | none, [] => []
 | none, u :: us => if u = [34] then AN (some [u]) us else u :: AN none us
 | some acc, [] => acc
 | some acc, u :: us => if u = [34] then AN none us else AN (some (acc ++ [u])) us
def Hd : List (List Nat) → Prop
 | [] => True
 | u :: us => ((∃ c, c ≠ 92 ∧ u = [c]) ∨ (∃ c, u = [92, c]) ∨ (u = [92] ∧ us = [])) ∧ Hd us
theorem EH : ∀ x : List Nat, Hd (BH false x) ∧ Hd (BH true x)
 | [] => ⟨trivial, .inr (.inr ⟨rfl, rfl⟩), trivial⟩
 | c :: l => by
  constructor
  ·unfold BH
   split
   ·exact (EH l).2
   ·rename_i h; exact ⟨.inl ⟨c, h, rfl⟩, (EH l).1⟩
  ·unfold BH
   exact ⟨.inr (.inl ⟨c, rfl⟩), (EH l).1⟩
theorem Iz : ∀ {us : List (List Nat)}, Hd us → BH false us.flatten = us
 | [], _ => rfl
 | u :: us, ⟨h, g⟩ => by
  have ih := Iz g
  rcases h with ⟨c, hc, rfl⟩ | ⟨c, rfl⟩ | ⟨rfl, rfl⟩
  ·show BH false (c :: us.flatten) = _
   rw [BH, if_neg hc, ih]
  ·show BH false (92 :: c :: us.flatten) = _
   rw [BH, if_pos rfl, BH, ih]
  ·rfl
theorem Mi {a b : List (List Nat)} (h : a.Sublist b) : Hd b → Hd a := by
 induction h with
 | slnil => exact id
 | cons u _ ih => exact fun g => ih g.2
 | @cons_cons a b u s ih =>
  intro ⟨g1, g2⟩
  refine ⟨?_, ih g2⟩
  rcases g1 with q | q | ⟨q1, q2⟩
  ·exact .inl q
  ·exact .inr (.inl q)
  ·refine .inr (.inr ⟨q1, ?_⟩)
   subst q2
   exact List.sublist_nil.mp s
theorem DG : ∀ (us : List (List Nat)), (AN none us).Sublist us ∧ ∀ acc, (AN (some acc) us).Sublist (acc ++ us)
 | [] => ⟨.slnil, fun acc => by simp [AN]⟩
 | u :: us => by
  constructor
  ·unfold AN
   split
   ·exact (DG us).2 [u]
   ·exact (DG us).1.cons_cons u
  ·intro acc
   unfold AN
   split
   ·exact (((DG us).1.cons u).trans (List.sublist_append_right acc _))
   ·have := (DG us).2 (acc ++ [u])
    simpa using this
def seg (x : List Nat) (a b : Nat) : List Nat := (x.drop a).take (b - a)
theorem HV (x : List Nat) {a b : Nat} (h1 : a ≤ b) (h2 : b ≤ c) : seg x a b ++ seg x b c = seg x a c := by
 unfold seg
 have e : x.drop b = (x.drop a).drop (b - a) := by rw [drop_drop, Nat.add_sub_of_le h1]
 rw [e, show c - a = (b - a) + (c - b) by rw [Nat.add_comm, Nat.sub_add_sub_cancel h2 h1], List.take_add]
theorem MJ (x : List Nat) (a : Nat) : seg x a x.length = x.drop a := by
 unfold seg
 exact take_of_length_le (by rw [length_drop]; exact le_refl _)
theorem FM (x : List Nat) (a : Nat) : seg x a a = [] := by simp [seg]
theorem H6 (x : List Nat) : ∀ (us : List (List Nat)) (o start : Nat) (out : List (List Nat)), o + us.flatten.length = x.length → x.drop o = us.flatten → (∀ u ∈ us, 0 < u.length) →
  (start ≤ o → (Ct x ((EO o us).foldl (AH x) ⟨start, none, out⟩)).flatten = out.flatten ++ (seg x start o ++ (AN none us).flatten)) ∧
  (∀ q acc, start ≤ q → q ≤ o → acc.flatten = seg x q o → (Ct x ((EO o us).foldl (AH x) ⟨start, some q, out⟩)).flatten = out.flatten ++ (seg x start q ++ (AN (some acc) us).flatten))
 | [], o, start, out, hl, hd, _ => by
  have ho : o = x.length := by simpa using hl
  subst ho
  have key : start ≤ x.length → ∀ op, (Ct x ⟨start, op, out⟩).flatten = out.flatten ++ seg x start x.length := fun hs op => by
   unfold Ct
   dsimp only
   split
   ·rw [Dr, flatten_append, MJ]; simp
   ·rw [show start = x.length by exact le_antisymm (Aa 0x94012800421 rt hs) (Aa 291380514718753 rt ‹_›), FM]; simp
  refine ⟨fun hs => ?_, fun q acc h1 h2 ha => ?_⟩
  ·show (Ct x ⟨start, none, out⟩).flatten = _
   rw [key hs]; simp [AN]
  ·show (Ct x ⟨start, some q, out⟩).flatten = _
   rw [key (by exact AB 0xa401490052800422 rt h1 h2)]
   unfold AN
   rw [ha, HV x h1 h2]
 | u :: us, o, start, out, hl, hd, hp => by
  have hu := hp u (.head _)
  rw [flatten_cons, length_append] at hl
  have hd' : x.drop (o + u.length) = us.flatten := by
   rw [← drop_drop, hd, flatten_cons, List.drop_left]
  have hsu : seg x o (o + u.length) = u := by
   unfold seg
   rw [hd, flatten_cons, Nat.add_sub_cancel_left, List.take_left]
  have ih := fun st' out' => H6 x us (o + u.length) st' out' (by exact q40 0xb525000096a4810014021 rt hl) hd' fun v hv => hp v (.tail _ hv)
  refine ⟨fun hs => ?_, fun q acc h1 h2 ha => ?_⟩
  ·unfold EO AN
   rw [foldl_cons]
   by_cases h34 : u = [34]
   ·subst h34
    rw [if_pos rfl]
    have e : AH x ⟨start, none, out⟩ (o + [34].length - 1, [34]) = ⟨start, some o, out⟩ := by unfold AH; simp
    rw [e, (ih start out).2 o [[34]] hs (by simp) (by rw [hsu]; rfl)]
   ·rw [if_neg h34]
    have e : AH x ⟨start, none, out⟩ (o + u.length - 1, u) = ⟨start, none, out⟩ := by unfold AH; simp [h34]
    rw [e, (ih start out).1 (by exact AB 0x42809029200a00408422 rt hu hs), flatten_cons, ← HV x hs (le_add_right o u.length), hsu, append_assoc]
  ·unfold EO AN
   rw [foldl_cons]
   by_cases h34 : u = [34]
   ·subst h34
    rw [if_pos rfl]
    have e : AH x ⟨start, some q, out⟩ (o + [34].length - 1, [34]) = ⟨o + 1, none, if start ≠ q then out ++ [pick x (some start) (some q) none] else out⟩ := by unfold AH; simp
    rw [e, (ih _ _).1 (by simp)]
    rw [show o + [34].length = o + 1 from rfl, FM, nil_append, ← append_assoc]
    congr 1
    by_cases hq : start = q
    ·subst hq; simp [FM]
    ·rw [if_pos hq, II]; simp [seg]
   ·rw [if_neg h34]
    have e : AH x ⟨start, some q, out⟩ (o + u.length - 1, u) = ⟨start, some q, out⟩ := by unfold AH; simp [h34]
    rw [e, (ih start out).2 q (acc ++ [u]) h1 (by exact AB 0x42809029200a00408422 rt hu h2) ?_]
    rw [flatten_append, ha, ← HV x h2 (le_add_right o u.length), hsu]
    simp
theorem Fu : ∀ {us : List (List Nat)}, [34] ∉ us → AN none us = us
 | [], _ => rfl
 | u :: us, h => by
  unfold AN
  rw [if_neg (fun e => h (by rw [e]; exact .head _)), Fu fun q => h (.tail _ q)]
theorem FJ : ∀ (x : List Nat), (∀ u ∈ BH false x, 0 < u.length) ∧ ∀ u ∈ BH true x, 0 < u.length
 | [] => ⟨fun u hu => (nomatch hu), fun u hu => by rw [List.mem_singleton.mp hu]; decide⟩
 | c :: l => by
  constructor
  ·intro u hu
   unfold BH at hu
   split at hu
   ·exact (FJ l).2 u hu
   ·rcases List.mem_cons.mp hu with rfl | q
    ·exact succ_pos _
    ·exact (FJ l).1 u q
  ·intro u hu
   unfold BH at hu
   rcases List.mem_cons.mp hu with rfl | q
   ·exact succ_pos _
   ·exact (FJ l).1 u q
theorem MK (x : List Nat) : BL x = (AN none (Dn x)).flatten := by
 unfold BL
 split
 ·unfold Cu
  rw [(DV x 0).1]
  have := (H6 x (Dn x) 0 0 [] (by rw [(CE x).1]; simp) (by rw [(CE x).1]; simp) (FJ x).1).1 (le_refl _)
  rw [this, FM]; rfl
 ·rename_i h
  rw [Fu, (CE x).1]
  intro hm
  refine h ?_
  have : 34 ∈ (Dn x).flatten := List.mem_flatten.mpr ⟨_, hm, .head _⟩
  rwa [(CE x).1] at this
theorem Fy (x : List Nat) : Dn (BL x) = AN none (Dn x) := by
 rw [MK]
 exact Iz (Mi (DG _).1 (EH x).1)
noncomputable def Bs : List (List Nat) → Int → Bool
 | [], o => decide (o = 0)
 | u :: r, o => if u = [40] then Bs r (o + 1) else if u = [41] then (if o - 1 < 0 then false else Bs r (o - 1)) else Bs r o
theorem Ea : ∀ (us : List (List Nat)) (p : Nat) (o : Int), CH (EO p us) o = Bs us o
 | [], _, _ => rfl
 | u :: us, p, o => by
  unfold EO CH Bs
  dsimp only
  rw [Ea us, Ea us, Ea us]
theorem LP (x : List Nat) : Db x = Bs (AN none (Dn x)) 0 := by
 unfold Db
 rw [(DV _ 0).1, Ea, show BH false (BL x) = _ from Fy x]
noncomputable def EG (p : List Nat) : List (List Nat) := if p.take 1 = [92] then [p] else []
structure Lr (p : List Nat) : Prop where
 cat : ∀ r, AN none (Dn (p ++ r)) = EG p ++ AN none (Dn r)
 no : ∀ u ∈ EG p, u ≠ [40] ∧ u ≠ [41]
theorem Eb : Lr [] := ⟨fun r => rfl, fun u hu => (nomatch hu)⟩
noncomputable def Do : List (List Nat) := [[34, 40, 34], [34, 41, 34], [92, 40], [92, 41], [92, 34], [92, 92], [34, 92, 34, 40, 34], [34, 40, 34, 34, 92, 34, 34]]
theorem G3 : ∀ p ∈ Do, Lr p := by
 intro p hp
 unfold Do at hp
 simp only [mem_cons, List.not_mem_nil, or_false] at hp
 rcases hp with rfl | rfl | rfl | rfl | rfl | rfl | rfl | rfl
 all_goals
  constructor
  ·intro r; simp [Dn, BH, AN, EG]
  ·intro u hu; simp [EG] at hu; try (subst hu; decide)
noncomputable def HP (s : List Nat) : List (List Nat) := s.map fun c => [c]
theorem KS {s : List Nat} (h : ∀ c ∈ s, c = 40 ∨ c = 41) (r : List Nat) : AN none (Dn (s ++ r)) = HP s ++ AN none (Dn r) := by
 induction s with
 | nil => rfl
 | cons c s ih =>
  have hc := h c (.head _)
  have ih := ih fun d hd => h d (.tail _ hd)
  show AN none (BH false (c :: (s ++ r))) = _
  rw [BH, if_neg (by lia), AN, if_neg (by simp; lia)]
  show [c] :: AN none (Dn (s ++ r)) = _
  rw [ih]; rfl
def DL (slope : Nat) (b : Bool) : List Nat := if b then replicate slope 40 else [41]
theorem NJ (slope : Nat) (b : Bool) : ∀ c ∈ DL slope b, c = 40 ∨ c = 41 := fun c hc => by
 unfold DL at hc
 split at hc
 ·exact .inl (List.eq_of_mem_replicate hc)
 ·exact .inr (by simpa using hc)
noncomputable def ES (slope : Nat) (hidden : List (List Nat)) (z : List (Bool × Nat)) : List (List Nat) := z.flatMap fun x => HP (DL slope x.1) ++ EG (hidden.getD (x.2 % 5) [])
def Hid (hidden : List (List Nat)) : Prop := ∀ j, Lr (hidden.getD j [])
theorem Gr (hh : Hid hidden) (slope : Nat) (tail : List Nat) : ∀ z : List (Bool × Nat), AN none (Dn ((z.map fun x => DL slope x.1 ++ hidden.getD (x.2 % 5) []).flatten ++ tail)) = ES slope hidden z ++ AN none (Dn tail)
 | [] => rfl
 | x :: z => by
  rw [map_cons, flatten_cons, append_assoc, append_assoc, KS (NJ slope x.1), (hh _).cat, Gr hh slope tail z]
  unfold ES
  rw [flatMap_cons]
  simp
theorem Ku (bs : List Bool) (slope : Nat) (hidden : List (List Nat)) (tail : List Nat) : Bo bs slope hidden tail = (bs.zipIdx.map fun x => DL slope x.1 ++ hidden.getD (x.2 % 5) []).flatten ++ tail := by
 unfold Bo O3 CK
 congr 2
 rw [List.zipIdx_map, map_map]
 rfl
theorem GO (hh : Hid hidden) (slope : Nat) (bs : List Bool) (tail : List Nat) : AN none (Dn (Bo bs slope hidden tail)) = ES slope hidden bs.zipIdx ++ AN none (Dn tail) := by
 rw [Ku, Gr hh]
noncomputable def CI (s : Nat) : List Bool → Int → Bool
 | [], o => decide (o = 0)
 | true :: r, o => CI s r (o + s)
 | false :: r, o => if o - 1 < 0 then false else CI s r (o - 1)
theorem CW : ∀ (us vs : List (List Nat)) (o : Int), (∀ u ∈ us, u ≠ [40] ∧ u ≠ [41]) → Bs (us ++ vs) o = Bs vs o
 | [], _, _, _ => rfl
 | u :: us, vs, o, h => by
  obtain ⟨h1, h2⟩ := h u (.head _)
  rw [cons_append, Bs, if_neg h1, if_neg h2, CW us vs o fun v hv => h v (.tail _ hv)]
theorem GC : ∀ (n : Nat) (vs : List (List Nat)) (o : Int), Bs (HP (replicate n 40) ++ vs) o = Bs vs (o + n)
 | 0, vs, o => by simp [HP]
 | n + 1, vs, o => by
  show Bs ([40] :: (HP (replicate n 40) ++ vs)) o = _
  rw [Bs, if_pos rfl, GC n]
  congr 1; exact q11 0x122003a01030928001420 rt
theorem GD (hh : Hid hidden) (s : Nat) {tl : List (List Nat)} (ht : ∀ u ∈ tl, u ≠ [40] ∧ u ≠ [41]) : ∀ (bs : List Bool) (k : Nat) (o : Int), Bs (ES s hidden (bs.zipIdx k) ++ tl) o = CI s bs o
 | [], k, o => by
  show Bs tl o = _
  have := CW tl [] o ht
  rw [append_nil] at this
  rw [this]; rfl
 | b :: bs, k, o => by
  rw [List.zipIdx_cons]
  unfold ES
  rw [flatMap_cons, append_assoc, append_assoc]
  have ih := GD hh s ht bs (k + 1)
  unfold ES at ih
  cases b with
  | true =>
   show Bs (HP (replicate s 40) ++ _) o = _
   rw [GC, CW _ _ _ (hh _).no, ih]; rfl
  | false =>
   show Bs ([41] :: (EG _ ++ _)) o = _
   rw [Bs, if_neg (by decide), if_pos rfl, CW _ _ _ (hh _).no, ih]; rfl
theorem D1 (hh : Hid hidden) (s : Nat) (bs : List Bool) {tail : List Nat} (ht : ∀ u ∈ AN none (Dn tail), u ≠ [40] ∧ u ≠ [41]) : Db (Bo bs s hidden tail) = CI s bs 0 := by
 rw [LP, GO hh, GD hh s ht]
noncomputable def Eo : List (List Nat) := [[], [34], [92], [34, 97]]
theorem E0 : ∀ p ∈ Eo, AN none (Dn p) = p.map (fun c => [c]) ∧ ∀ u ∈ AN none (Dn p), u ≠ [40] ∧ u ≠ [41] := by decide
noncomputable def zs (f : α → Int) : List α → Int
 | [] => 0
 | x :: l => f x + zs f l
theorem AL (f : α → Int) : ∀ l r : List α, zs f (l ++ r) = zs f l + zs f r
 | [], r => by simp [zs]
 | x :: l, r => by rw [cons_append, zs, zs, AL f l r]; exact q03 0x16ad000b541401420 rt
theorem CN (f : α → Int) (g : β → α) : ∀ l : List β, zs f (l.map g) = zs (fun x => f (g x)) l
 | [] => rfl
 | x :: l => by rw [map_cons, zs, zs, CN f g l]
theorem K0 (f : α → Int) : ∀ l : List α, (l.map f).sum = zs f l
 | [] => rfl
 | x :: l => by rw [map_cons, sum_cons, K0 f l]; rfl
theorem F8 {f g : α → Int} : ∀ {l : List α}, (∀ x ∈ l, f x ≤ g x) → zs f l ≤ zs g l
 | [], _ => Int.le_refl _
 | x :: l, h => by
  have h1 := h x (.head _)
  have h2 := F8 (l := l) fun y hy => h y (.tail _ hy)
  unfold zs; exact l04 0x17a82d400ef6186b418422 rt h1 h2
theorem Aw {f g : α → Int} {l : List α} (h : ∀ x ∈ l, f x = g x) : zs f l = zs g l :=
 Int.le_antisymm (F8 fun x hx => Int.le_of_eq (h x hx)) (F8 fun x hx => Int.le_of_eq (h x hx).symm)
theorem Cz (l : List α) : zs (fun _ => 0) l = 0 := by induction l with
 | nil => rfl
 | cons a l ih => unfold zs; exact q01 0x4a0080280942c021 rt ih
theorem Ln {f : α → Int} {l : List α} (h : ∀ x ∈ l, 0 ≤ f x) : 0 ≤ zs f l := by
 have := F8 (f := fun _ => 0) (g := f) h
 rwa [Cz] at this
theorem GS (f g : α → Int) (l : List α) : zs (fun x => f x + g x) l = zs f l + zs g l := by induction l with
 | nil => rfl
 | cons a l ih => unfold zs; exact q05 0x16c02b700298b8005b54142c021 rt ih
theorem D7 (f : β → Int) (g : α → List β) : ∀ l : List α, zs f (l.flatMap g) = zs (fun x => zs f (g x)) l
 | [] => rfl
 | x :: l => by rw [flatMap_cons, AL, D7 f g l]; rfl
theorem NR (f : α → β → Int) (l : List α) (r : List β) : zs (fun x => zs (f x) r) l = zs (fun y => zs (fun x => f x y) l) r := by
 induction l with
 | nil => exact (Cz r).symm
 | cons x l ih => rw [zs, ih, ← GS]; rfl
def ps2 (f : α → α → Int) : List α → Int
 | [] => 0
 | x :: l => zs (f x) l + ps2 f l
theorem Cg (f : α → α → Int) : ∀ l r : List α, ps2 f (l ++ r) = ps2 f l + ps2 f r + zs (fun x => zs (f x) r) l
 | [], r => by simp [ps2, zs]
 | x :: l, r => by rw [cons_append, ps2, ps2, zs, Cg f l r, AL]; exact q05 0x18a82f6a0000c5ec00568001420 rt
theorem H4 {f g : α → α → Int} : ∀ {l : List α}, (∀ x ∈ l, ∀ y ∈ l, f x y = g x y) → ps2 f l = ps2 g l
 | [], _ => rfl
 | x :: l, h => by
  rw [ps2, ps2, Aw fun y hy => h x (.head _) y (.tail _ hy), H4 fun a ha b hb => h a (.tail _ ha) b (.tail _ hb)]
theorem IE {k : α → Nat} {x : α} {l : List α} (hx : k x < B) : ∃ A D, Al k B l = A ++ D ∧ Al k B (x :: l) = A ++ x :: D ∧ (∀ y ∈ A, k y < k x) ∧ ∀ y ∈ D, k x ≤ k y := by
 have e1 := B2 k hx l
 have e2 := B2 k hx (x :: l)
 rw [(Cm (x := x) (l := l) (k := k) (a := 0) (n := k x) (.inr (by exact Aq 283472035872 rt))).2, (Cm (x := x) (l := l) (k := k) (a := k x + 1) (n := B - k x - 1) (.inl (by exact Aq 38923404320 rt))).2] at e2
 rw [List.filter_cons_of_pos (by simp)] at e2
 refine ⟨_, _, e1, e2, fun y hy => ?_, fun y hy => ?_⟩
 ·have := (Cl hy).2.1; exact Aa 0x4a0290100808421 rt this
 ·rcases List.mem_append.mp hy with q | q
  ·have := (List.mem_filter.mp q).2
   simp at this; exact Aa 9105641127969 rt this
  ·have := (Cl q).1; exact Aa 0x4a0090910000421 rt this
theorem E4 (k : α → Nat) (B : Nat) (f : α → Int) : ∀ l : List α, (∀ y ∈ l, k y < B) → zs f (Al k B l) = zs f l
 | [], _ => by
  have : Al k B ([] : List α) = [] := by unfold Al; simp
  rw [this]
 | x :: l, h => by
  obtain ⟨A, D, e1, e2, _, _⟩ := IE (l := l) (h x (.head _))
  have ih := E4 k B f l fun y hy => h y (.tail _ hy)
  rw [e1, AL] at ih
  rw [e2, AL, zs, zs]; exact q04 0x16b82b705005b56802c021 rt ih
theorem Kl (k : α → Nat) (B : Nat) (f : α → α → Int) : ∀ l : List α, (∀ y ∈ l, k y < B) → ps2 f (Al k B l) = ps2 (fun x y => if k x ≤ k y then f x y else f y x) l
 | [], _ => by
  have : Al k B ([] : List α) = [] := by unfold Al; simp
  rw [this]; rfl
 | x :: l, h => by
  obtain ⟨A, D, e1, e2, hA, hD⟩ := IE (l := l) (h x (.head _))
  have hl : ∀ y ∈ l, k y < B := fun y hy => h y (.tail _ hy)
  have ih := Kl k B f l hl
  have hs := E4 k B (fun y => if k x ≤ k y then f x y else f y x) l hl
  rw [e1, AL] at hs
  rw [Aw (l := A) (g := fun y => f y x) (fun y hy => if_neg (by have := hA y hy; exact Aa 291377334223905 rt this)), Aw (l := D) (g := f x) (fun y hy => if_pos (hD y hy))] at hs
  rw [e1, Cg] at ih
  have e3 : zs (fun y => zs (f y) (x :: D)) A = zs (fun y => f y x) A + zs (fun y => zs (f y) D) A := by rw [← GS]; rfl
  rw [e2, Cg, ps2, ps2, e3]
  show _ = zs (fun y => if k x ≤ k y then f x y else f y x) l + _
  exact q07 0x17d02d805720a0005d67002c2f6ad0002c022 rt ih hs
def wM (s : Nat) (m : Nat × Bool) : Int := if m.2 then (s : Int) else -1
theorem HS (d : Nat) : Co 1 d = [(d, true), (d + 1, false)] := rfl
theorem GY (d : Nat) : Co 2 d = [(d, true), (d + 1, false), (d + 2, false)] := rfl
theorem GJ (d : Nat) : Co 3 d = [(d, true), (d + 1, false), (d + 2, false), (d + 3, false)] := rfl
theorem HT {d : Nat} {m : Nat × Bool} (h : m ∈ Co size d) : d ≤ m.1 ∧ m.1 ≤ d + size ∧ (m.2 = true ↔ m.1 = d) := by
 unfold Co at h
 obtain ⟨s, hs, rfl⟩ := List.mem_map.mp h
 have := List.mem_range.mp hs
 refine ⟨by simp, by simp; exact Aa 0x4a0012240808421 rt this, by simp⟩
theorem Go {m : Nat × Bool} (h : m ∈ Am size ds) : ∃ d ∈ ds, d ≤ m.1 ∧ m.1 ≤ d + size ∧ (m.2 = true ↔ m.1 = d) := by
 unfold Am at h
 obtain ⟨d, hd, hm⟩ := List.mem_flatMap.mp h
 exact ⟨d, hd, HT hm⟩
theorem sz3 (h : 1 ≤ size ∧ size ≤ 3) : size = 1 ∨ size = 2 ∨ size = 3 := (Nat.lt_or_eq_of_le h.2).elim (fun a => (Nat.lt_or_eq_of_le (Nat.le_of_lt_succ a)).elim (fun b => .inl (le_antisymm (Nat.le_of_lt_succ b) h.1)) fun b => .inr (.inl b)) fun a => .inr (.inr a)
def Af (B size : Nat) (ds : List Nat) : List (Nat × Bool) := Al fst B (Am size ds)
theorem Lc (hs : 1 ≤ size ∧ size ≤ 3) (s d : Nat) : zs (wM s) (Co size d) = (s : Int) - size := by
 rcases sz3 hs with rfl | rfl | rfl <;> simp [HS, GY, GJ, zs, wM] <;> (first | exact IW 0x2440c212090301420 rt | exact IW 0x4440c222090301420 rt | exact IW 0x6440c232090301420 rt)
theorem GT (c : Int) : ∀ l : List α, zs (fun _ => c) l = c * l.length
 | [] => by simp [zs]
 | x :: l => by rw [zs, GT c l, length_cons]; simp only [natCast_add, mul_add]; omega
theorem IP (hs : 1 ≤ size ∧ size ≤ 3) (hB : ∀ m ∈ Am size ds, m.1 < B) (s : Nat) : zs (wM s) (Af B size ds) = ((s : Int) - size) * ds.length := by
 unfold Af
 rw [E4 _ _ _ _ hB]
 unfold Am
 rw [D7, Aw (g := fun _ => (s : Int) - size) fun d _ => Lc hs s d, GT]
theorem MD {m : Nat × Bool} (hk : (Af B size ds)[k]? = some m) : (∀ x ∈ (Af B size ds).take (k + 1), x.1 ≤ m.1) ∧ ∀ x ∈ (Af B size ds).drop (k + 1), m.1 ≤ x.1 := by
 constructor
 ·intro x hx
  obtain ⟨i, hi, e⟩ := List.mem_iff_getElem.mp hx
  rw [List.getElem_take] at e
  rw [length_take] at hi
  exact CG (k := fst) (B := B) (l := Am size ds) (List.getElem?_eq_some_iff.mpr ⟨by unfold Af at hi; exact AB 0xa405490052808422 rt hi (min_le_right _ _), e⟩) hk (by exact AB 0x52001228090052808422 rt hi (min_le_left _ _))
 ·intro x hx
  obtain ⟨i, hi, e⟩ := List.mem_iff_getElem.mp hx
  rw [List.getElem_drop] at e
  rw [length_drop] at hi
  exact CG (k := fst) (B := B) (l := Am size ds) hk (List.getElem?_eq_some_iff.mpr ⟨by unfold Af at hi; omega, e⟩) (by exact Aa 317904889577504 rt)
theorem BB (hs : 1 ≤ size ∧ size ≤ 3) (hB : ∀ m ∈ Am size ds, m.1 < B) (k : Nat) : 0 ≤ zs (wM size) ((Af B size ds).take k) := by
 cases k with
 | zero => simp [zs]
 | succ k =>
  rcases lt_or_ge k (Af B size ds).length with hk | hk
  ·obtain ⟨h1, h2⟩ := MD (getElem?_eq_getElem hk)
   generalize (Af B size ds)[k] = m at h1 h2
   let v : Nat × Bool → Int := fun x => if x.2 then (if x.1 < m.1 then (size : Int) else 0) else (if x.1 ≤ m.1 then -1 else 0)
   have e := E4 fst B v (Am size ds) hB
   change zs v (Af B size ds) = _ at e
   rw [← take_append_drop (k + 1) (Af B size ds), AL] at e
   have a1 : zs v ((Af B size ds).take (k + 1)) ≤ zs (wM size) ((Af B size ds).take (k + 1)) := F8 fun x hx => by
    have := h1 x hx
    simp only [v, wM]
    split
    ·split <;> (first | exact Aq 0x40c041a02400421 rt hs.1 | exact Aq 8699087904 rt)
    ·exact Cs 1239135882272 rt
   have a2 : zs v ((Af B size ds).drop (k + 1)) ≤ 0 := by
    rw [← Cz ((Af B size ds).drop (k + 1))]
    refine F8 fun x hx => ?_
    have := h2 x hx
    simp only [v]
    split
    ·rw [if_neg (by exact Aa 291411693929505 rt this)]; exact Cs 134351904 rt
    ·split <;> (first | exact Cs 134351904 rt | exact Cs 4332784672 rt)
   have a3 : 0 ≤ zs v (Am size ds) := by
    unfold Am
    rw [D7]
    refine Ln fun d _ => ?_
    rcases sz3 hs with rfl | rfl | rfl
    ·simp only [HS, zs, v]; simp; split <;> split <;> (first | exact Cs 0x4820900020c20 rt | exact Cs 4402341612576 rt | exact Cs 4436701350944 rt | exact Aa 0x4820100020d21220000a50130422 rt ‹_› ‹_›)
    ·simp only [GY, zs, v]; simp; split <;> split <;> split <;> omega
    ·simp only [GJ, zs, v]; simp; split <;> split <;> split <;> split <;> omega
   exact l04 0x2e020ec020c2025461bd061b56802c024 rt e a1 a2 a3
  ·rw [take_of_length_le (by exact Aa 0x91204012800421 rt hk), IP hs hB]
   simp
def wB (s : Nat) (b : Bool) : Int := if b then (s : Int) else -1
theorem Fg (s : Nat) (ms : List (Nat × Bool)) : zs (wB s) (ms.map (·.2)) = zs (wM s) ms := by rw [CN]; rfl
theorem CJ (s : Nat) : ∀ (bs : List Bool) (o : Int), 0 ≤ o → (CI s bs o = true ↔ (∀ k, 0 ≤ o + zs (wB s) (bs.take k)) ∧ o + zs (wB s) bs = 0)
 | [], o, h => by
  unfold CI zs
  simp [zs]
  omega
 | true :: r, o, h => by
  unfold CI
  rw [CJ s r (o + s) (by exact l11 0x103a00041d00418421 rt h)]
  have e : zs (wB s) (true :: r) = s + zs (wB s) r := by rw [zs]; simp [wB]
  rw [e]
  constructor
  ·rintro ⟨h1, h2⟩
   refine ⟨fun k => ?_, by exact q12 0x2550305005012a81d0002c021 rt h2⟩
   cases k with
   | zero => simpa [zs] using h
   | succ k =>
    have := h1 k
    rw [take_succ_cons, zs]
    have e : wB s true = s := rfl
    exact l13 0x15b0280010681d8b0aa0740000418422 rt this e
  ·rintro ⟨h1, h2⟩
   refine ⟨fun k => ?_, by exact q12 0x25503a0005012a8182802c021 rt h2⟩
   have := h1 (k + 1)
   rw [take_succ_cons, zs] at this
   have e : wB s true = s := rfl
   exact l13 0x1640e800008340ea50daa0a000418422 rt this e
 | false :: r, o, h => by
  unfold CI
  have e : zs (wB s) (false :: r) = -1 + zs (wB s) r := by rw [zs]; simp [wB]
  rw [e]
  split
  ·constructor
   ·intro q; cases q
   ·rintro ⟨h1, _⟩
    have := h1 1
    rw [take_succ_cons, take_zero, zs, zs] at this
    simp [wB] at this; omega
  ·rw [CJ s r (o - 1) (by exact FI 0x24a0404180812502430421 rt ‹_›)]
   constructor
   ·rintro ⟨h1, h2⟩
    refine ⟨fun k => ?_, by exact q02 0x4a848205005012a1250202c021 rt h2⟩
    cases k with
    | zero => simpa [zs] using h
    | succ k =>
     have := h1 k
     rw [take_succ_cons, zs]
     have e : wB s false = -1 := rfl
     exact l03 0x2b60500020c24158b0a84940800418422 rt this e
   ·rintro ⟨h1, h2⟩
    refine ⟨fun k => ?_, by exact q02 0x4a8494080a025424102802c021 rt h2⟩
    have := h1 (k + 1)
    rw [take_succ_cons, zs] at this
    have e : wB s false = -1 := rfl
    exact l03 0x2c1250200106120aa50daa0a000418422 rt this e
theorem J7 (hs : 1 ≤ size ∧ size ≤ 3) (hB : ∀ m ∈ Am size ds, m.1 < B) : CI size ((Af B size ds).map (·.2)) 0 = true := by
 rw [CJ _ _ _ (Int.le_refl 0)]
 refine ⟨fun k => ?_, ?_⟩
 ·rw [← map_take, Fg]
  have := BB hs hB k
  exact FI 0x280200041d00418421 rt this
 ·rw [Fg, IP hs hB]; simp
theorem Hz (hs : 1 ≤ size ∧ size ≤ 3) (hB : ∀ m ∈ Am size ds, m.1 < B) (hd : 0 < ds.length) {s : Nat} (hne : s ≠ size) : CI s ((Af B size ds).map (·.2)) 0 = false := by
 rw [eq_false_iff]
 intro h
 have := ((CJ _ _ _ (Int.le_refl 0)).mp h).2
 rw [Fg, IP hs hB] at this
 have h2 : ((s : Int) - size) * ds.length = 0 := by exact q01 0x4a1404a00802c021 rt this
 rcases Int.mul_eq_zero.mp h2 with q | q <;> omega
theorem J8 (hs : 1 ≤ size ∧ size ≤ 3) (hB : ∀ m ∈ Am size ds, m.1 < B) (cut : Nat) :
  CI size (((Af B size ds).drop cut ++ (Af B size ds).take cut).map (·.2)) 0 = decide (zs (wM size) ((Af B size ds).take cut) = 0) := by
 have ht := IP hs hB size
 have e : zs (wM size) ((Af B size ds).take cut) + zs (wM size) ((Af B size ds).drop cut) = 0 := by
  rw [← AL, take_append_drop, ht]; simp
 rw [Bool.eq_iff_iff, CJ _ _ _ (Int.le_refl 0), decide_eq_true_iff]
 constructor
 ·rintro ⟨h1, _⟩
  have h2 := h1 (((Af B size ds).drop cut).length)
  rw [← map_take, Fg, take_left' rfl] at h2
  have h3 := BB hs hB cut
  exact Int.le_antisymm (l02 0x250750100020c202568028422 rt e h2) (FI 0x50041d00418421 rt h3)
 ·intro h0
  refine ⟨fun k => ?_, ?_⟩
  ·rw [← map_take, Fg, List.take_append, AL]
   rw [h0] at e
   have h2 : ∀ j, 0 ≤ zs (wM size) (((Af B size ds).drop cut).take j) := fun j => by
    have h3 := BB hs hB (cut + j)
    rw [List.take_add, AL, h0] at h3
    exact FI 0x28020e802000418421 rt h3
   have h4 := BB hs hB (min (k - ((Af B size ds).drop cut).length) cut)
   have h5 := h2 k
   rw [List.take_take]
   exact l02 0x14a800400083a80830d00418422 rt h4 h5
  ·rw [Fg, AL]; exact q02 0x4a5400200a0256802c021 rt e
noncomputable def A7 (b : Bool) : Nat → List (Nat × Bool) → List Nat
 | _, [] => []
 | i, m :: l => if m.2 = b then i :: A7 b (i + 1) l else A7 b (i + 1) l
theorem Cn (b : Bool) : ∀ (l r : List (Nat × Bool)) (i : Nat), A7 b i (l ++ r) = A7 b i l ++ A7 b (i + l.length) r
 | [], r, i => rfl
 | m :: l, r, i => by
  rw [cons_append, A7, A7, Cn b l r (i + 1), length_cons, show i + 1 + l.length = i + (l.length + 1) by exact GH 0x489020090910000820 rt]
  split <;> rfl
theorem Lb (b : Bool) (l : List (Nat × Bool)) (m : Nat × Bool) : A7 b 0 (l ++ [m]) = A7 b 0 l ++ if m.2 = b then [l.length] else [] := by
 rw [Cn]; simp [A7]
theorem Fe (b : Bool) {l : List (Nat × Bool)} {m : Nat × Bool} (h : l[i]? = some m) : A7 b 0 (l.take (i + 1)) = A7 b 0 (l.take i) ++ if m.2 = b then [i] else [] := by
 obtain ⟨hi, rfl⟩ := List.getElem?_eq_some_iff.mp h
 rw [List.take_succ_eq_append_getElem hi, Lb, length_take, min_eq_left (le_of_lt hi)]
theorem Ds {b : Bool} : ∀ {l : List (Nat × Bool)} {i p : Nat}, p ∈ A7 b i l → i ≤ p ∧ p < i + l.length
 | [], i, p, h => by simp [A7] at h
 | m :: l, i, p, h => by
  unfold A7 at h
  rw [length_cons]
  split at h
  ·rcases List.mem_cons.mp h with rfl | h
   ·exact ⟨Aq 8650784 rt, Aa 39891924943904 rt⟩
   ·have := Ds h; exact ⟨Aa 0x4a0090910000421 rt this.1, AB 0x48a024080a8244800808421 rt this.2⟩
  ·have := Ds h; exact ⟨Aa 0x4a0090910000421 rt this.1, AB 0x48a024080a8244800808421 rt this.2⟩
theorem EM {b : Bool} : ∀ {l : List (Nat × Bool)} {i p : Nat}, p ∈ A7 b i l → ∃ m, l[p - i]? = some m ∧ m.2 = b
 | [], i, p, h => by simp [A7] at h
 | m :: l, i, p, h => by
  unfold A7 at h
  have tl : p ∈ A7 b (i + 1) l → ∃ m', (m :: l)[p - i]? = some m' ∧ m'.2 = b := fun h => by
   obtain ⟨m', h1, h2⟩ := EM h
   have := Ds h
   refine ⟨m', ?_, h2⟩
   rw [show p - i = (p - (i + 1)) + 1 by exact q40 0x48b0204a09120580415250014022 rt (sub_add_cancel (Aa 0x4a0090910000421 rt this.1)) (sub_add_cancel (Aa 0x2424400090910000421 rt this.1)), List.getElem?_cons_succ]; exact h1
  split at h
  ·rcases List.mem_cons.mp h with rfl | h
   ·exact ⟨m, by simp, by assumption⟩
   ·exact tl h
  ·exact tl h
abbrev Bp (b : Bool) (l : List (Nat × Bool)) : Nat := (A7 b 0 l).length
theorem EN (b : Bool) : ∀ (l : List (Nat × Bool)) (i j : Nat), (A7 b i l).length = (A7 b j l).length
 | [], _, _ => rfl
 | m :: l, i, j => by
  unfold A7
  have := EN b l (i + 1) (j + 1)
  split
  ·simp only [length_cons]; rw [this]
  ·exact this
theorem Gf (b : Bool) (l r : List (Nat × Bool)) : Bp b (l ++ r) = Bp b l + Bp b r := by
 unfold Bp
 rw [Cn, length_append, EN b r _ 0]
theorem C9 (b : Bool) (m : Nat × Bool) (l : List (Nat × Bool)) : Bp b (m :: l) = (if m.2 = b then 1 else 0) + Bp b l := by
 unfold Bp
 rw [A7]
 split
 ·rw [length_cons, EN b l 1 0]; exact IW 9046782889691168 rt
 ·rw [EN b l 1 0]; exact IW 275012388896 rt
theorem Di (l : List (Nat × Bool)) : Bp true l + Bp false l = l.length := by
 induction l with
 | nil => rfl
 | cons m l ih =>
  rw [C9, C9, length_cons]
  cases m.2 <;> simp <;> (first | exact Ez 0x48a02424020025250014021 rt ih | exact Ez 0x48a02501200025250014021 rt ih)
theorem LU (b : Bool) (l : List (Nat × Bool)) : (Bp b l : Int) = zs (fun m => if m.2 = b then 1 else 0) l := by
 induction l with
 | nil => rfl
 | cons m l ih => rw [C9, zs, ← ih]; split <;> simp
theorem OP (s : Nat) (l : List (Nat × Bool)) : zs (wM s) l = s * Bp true l - Bp false l := by
 induction l with
 | nil => show (0 : Int) = s * ((0 : Nat) : Int) - ((0 : Nat) : Int); simp
 | cons m l ih =>
  rw [zs, ih, C9, C9]
  unfold wM
  cases m.2 <;> simp [mul_add] <;> (first | exact q11 0x103090140a0740848201420 rt | exact q21 0x91d10300523a050301420 rt)
theorem J9 (b : Bool) (l : List (Nat × Bool)) (k : Nat) : ∃ r, A7 b 0 l = A7 b 0 (l.take k) ++ r ∧ (∀ p ∈ A7 b 0 (l.take k), p < k) ∧ ∀ p ∈ r, k ≤ p := by
 rcases lt_or_ge k l.length with h | h
 ·refine ⟨A7 b k (l.drop k), ?_, fun p hp => ?_, fun p hp => (Ds hp).1⟩
  ·have := Cn b (l.take k) (l.drop k) 0
   rw [take_append_drop, length_take, min_eq_left (le_of_lt h), zero_add] at this
   exact this
  ·have := (Ds hp).2
   rw [length_take] at this; exact AB 0x5202a480290100808422 rt this (min_le_left _ _)
 ·rw [take_of_length_le h]
  exact ⟨[], by simp, fun p hp => by have := (Ds hp).2; exact AB 0x4a8280100a0852800422 rt h this, fun p hp => nomatch hp⟩
theorem FL {b : Bool} {l : List (Nat × Bool)} {p : Nat} (h : (A7 b 0 l)[j]? = some p) : j < Bp b (l.take k) ↔ p < k := by
 obtain ⟨r, e, h1, h2⟩ := J9 b l k
 rw [e] at h
 constructor
 ·intro hj
  rw [getElem?_append_left hj] at h
  exact h1 p (mem_of_getElem? h)
 ·intro hp
  refine Decidable.byContradiction fun hj => ?_
  rw [getElem?_append_right (by unfold Bp at hj; exact Aa 291380514718753 rt hj)] at h
  have := h2 p (mem_of_getElem? h)
  exact Aa 8172671313413122 rt hp this
theorem Fw {b : Bool} {l : List (Nat × Bool)} {p : Nat} {m : Nat × Bool} (h : l[p]? = some m) (hb : m.2 = b) : (A7 b 0 l)[Bp b (l.take p)]? = some p := by
 obtain ⟨hi, rfl⟩ := List.getElem?_eq_some_iff.mp h
 have e : l = l.take p ++ l[p] :: l.drop (p + 1) := by
  rw [List.getElem_cons_drop, take_append_drop]
 have e2 : A7 b 0 l = A7 b 0 (l.take p) ++ p :: A7 b (p + 1) (l.drop (p + 1)) := by
  have := Cn b (l.take p) (l[p] :: l.drop (p + 1)) 0
  rw [← e, length_take, min_eq_left (le_of_lt hi), zero_add, A7, if_pos hb] at this
  exact this
 rw [e2, getElem?_append_right (le_refl _)]
 simp
theorem IK {b : Bool} {l : List (Nat × Bool)} {p : Nat} (h : (A7 b 0 l)[j]? = some p) : j = Bp b (l.take p) := by
 have h1 := (FL (k := p) h)
 have h2 := (FL (k := p + 1) h).mpr (by exact Aq 38923404320 rt)
 obtain ⟨m, hm, hb⟩ := EM (mem_of_getElem? h)
 rw [Nat.sub_zero] at hm
 have h3 := Fw hm hb
 obtain ⟨hi, e⟩ := List.getElem?_eq_some_iff.mp hm
 rw [List.take_succ_eq_append_getElem hi, Gf, C9] at h2
 have : Bp b ([] : List (Nat × Bool)) = 0 := rfl
 split at h2 <;> omega
def fP (size : Nat) (x y : Nat × Bool) : Int := if y.2 then wM size x else 0
theorem IB (size : Nat) (l : List (Nat × Bool)) : ∀ i, zs (fun p => zs (wM size) (l.take p)) (A7 true 0 (l.take i)) = ps2 (fP size) (l.take i)
 | 0 => rfl
 | i + 1 => by
  have ih := IB size l i
  rcases lt_or_ge i l.length with hi | hi
  ·rw [Fe true (getElem?_eq_getElem hi), List.take_succ_eq_append_getElem hi, AL, ih, Cg]
   have e1 : ps2 (fP size) [l[i]] = 0 := rfl
   rw [e1]
   have e2 : zs (fun x => zs (fP size x) [l[i]]) (l.take i) = if l[i].2 then zs (wM size) (l.take i) else 0 := by
    split
    ·refine Aw fun x _ => ?_
     simp only [zs, fP]
     rw [if_pos (by assumption)]; exact q01 687349961760 rt
    ·rw [← Cz (l.take i)]
     refine Aw fun x _ => ?_
     simp only [zs, fP]
     rw [if_neg (by assumption)]; rfl
   rw [e2]
   split <;> simp [zs]
  ·rw [take_of_length_le (by (first | exact Aa 0x91204012800421 rt hi | exact Aa 0x94012800421 rt hi))] at ih ⊢
   exact ih
noncomputable def Jb (l : List (Nat × Bool)) : List Nat := (A7 true 0 l).map fun p => Bp false (l.take p)
theorem K5 (size : Nat) (l : List (Nat × Bool)) : zs (fun x : Nat × Nat => (size : Int) * x.2 - x.1) (Jb l).zipIdx = ps2 (fP size) l := by
 have h := IB size l l.length
 rw [take_length] at h
 rw [← h]
 unfold Jb
 rw [List.zipIdx_map, CN]
 have : ∀ x ∈ (A7 true 0 l).zipIdx, ((size : Int) * x.2 - Bp false (l.take x.1)) = zs (wM size) (l.take x.1) := fun x hx => by
  have e := IK (List.mem_zipIdx_iff_getElem?.mp hx)
  rw [OP, ← e]
 refine (Aw this).trans ?_
 have e3 := CN (fun p => zs (wM size) (l.take p)) (fst : Nat × Nat → Nat) (A7 true 0 l).zipIdx
 rw [← e3, List.zipIdx_map_fst]
noncomputable def By (size : Nat) (a b : Int) : Int := if a ≤ b then max 0 (size - b + a) else max 0 (size + 1 - a + b)
noncomputable def hX (size a b : Nat) : Int := zs (fun x => zs (fun y => if x.1 ≤ y.1 then fP size x y else fP size y x) (Co size b)) (Co size a)
theorem HU (size c d : Nat) : Co size (c + d) = (Co size d).map fun x => (c + x.1, x.2) := by
 unfold Co; rw [map_map]; exact map_congr_left fun s _ => congrArg (·, s == 0) (Nat.add_assoc c d s)
theorem NZ (size c a b : Nat) : hX size (c + a) (c + b) = hX size a b := by
 unfold hX; rw [HU, HU, CN]
 refine Aw fun x _ => ?_
 rw [CN]; exact Aw fun y _ => ite_congr (propext Nat.add_le_add_iff_left) (fun _ => rfl) fun _ => rfl
theorem NT (size c a b : Nat) : By size (c + a : Nat) (c + b : Nat) = By size a b := by
 unfold By; rw [natCast_add, natCast_add, show (size : Int) - (c + b) + (c + a) = size - b + a by omega, show (size : Int) + 1 - (c + a) + (c + b) = size + 1 - a + b by omega]
 exact ite_congr (propext (Int.add_le_add_iff_left _)) (fun _ => rfl) fun _ => rfl
theorem NX {e : Nat} (hs : size ≤ 3) (he : 4 ≤ e) : hX size 0 e = zs (fun x => zs (fun y => fP size x y) (Co size 0)) (Co size 0) := by
 unfold hX
 refine Aw fun x hx => ?_
 rw [show Co size e = _ from HU size e 0, CN]
 refine Aw fun y _ => if_pos ?_
 have := (HT hx).2.1
 show x.1 ≤ e + y.1; omega
theorem NY {e : Nat} (hs : size ≤ 3) (he : 4 ≤ e) : hX size e 0 = zs (fun x => zs (fun y => fP size y x) (Co size 0)) (Co size 0) := by
 unfold hX
 rw [show Co size e = _ from HU size e 0, CN]
 refine Aw fun x _ => Aw fun y hy => if_neg ?_
 have := (HT hy).2.1
 show ¬ e + x.1 ≤ y.1; omega
theorem Mj : ∀ size < 4, 1 ≤ size → ∀ e < 5, hX size 0 e = By size 0 e ∧ hX size e 0 = By size e 0 := by decide +kernel
theorem Py (hs : 1 ≤ size ∧ size ≤ 3) (e : Nat) : hX size 0 e = By size (0 : Nat) e ∧ hX size e 0 = By size e (0 : Nat) := by
 rcases lt_or_ge e 5 with h | h
 ·exact Mj size (Nat.lt_succ_of_le hs.2) hs.1 e h
 ·have h4 : 4 ≤ e := le_of_lt h
  have := Mj size (Nat.lt_succ_of_le hs.2) hs.1 4 (by decide)
  rw [NX hs.2 (le_refl 4), NY hs.2 (le_refl 4)] at this
  rw [NX hs.2 h4, NY hs.2 h4, this.1, this.2]
  have h3 := hs.2
  unfold By
  rw [if_pos (by decide), if_pos (by omega), if_neg (by decide), if_neg (by omega), max_eq_left (by omega), max_eq_left (by omega), max_eq_left (by omega), max_eq_left (by omega)]
  exact ⟨rfl, rfl⟩
theorem Pq (hs : 1 ≤ size ∧ size ≤ 3) (a b : Nat) : zs (fun x => zs (fun y => if x.1 ≤ y.1 then fP size x y else fP size y x) (Co size b)) (Co size a) = By size a b := by
 show hX size a b = _
 rcases le_total a b with h | h
 ·obtain ⟨e, rfl⟩ := Nat.exists_eq_add_of_le h
  exact (NZ size a 0 e).trans ((Py hs e).1.trans (NT size a 0 e).symm)
 ·obtain ⟨e, rfl⟩ := Nat.exists_eq_add_of_le h
  exact (NZ size b e 0).trans ((Py hs e).2.trans (NT size b e 0).symm)
theorem Kk (f : α → α → Int) (g : β → α) : ∀ l : List β, ps2 f (l.map g) = ps2 (fun x y => f (g x) (g y)) l
 | [] => rfl
 | x :: l => by rw [map_cons, ps2, ps2, Kk f g l, CN]
theorem MI (hs : 1 ≤ size ∧ size ≤ 3) (d : Nat) : ps2 (fun x y : Nat × Bool => if x.1 ≤ y.1 then fP size x y else fP size y x) (Co size d) = 0 := by
 rcases sz3 hs with rfl | rfl | rfl
 ·simp [HS, ps2, zs, fP]
 ·simp [GY, ps2, zs, fP]
 ·simp [GJ, ps2, zs, fP]
theorem He (hs : 1 ≤ size ∧ size ≤ 3) : ∀ ds : List Nat, ps2 (fun x y : Nat × Bool => if x.1 ≤ y.1 then fP size x y else fP size y x) (Am size ds) = ps2 (fun a b : Nat => By size a b) ds
 | [] => rfl
 | d :: ds => by
  have ih := He hs ds
  unfold Am at ih ⊢
  rw [flatMap_cons, Cg, ih, MI hs, ps2]
  have e : zs (fun x => zs (fun y : Nat × Bool => if x.1 ≤ y.1 then fP size x y else fP size y x) (ds.flatMap (Co size))) (Co size d) = zs (fun b : Nat => By size d b) ds := by
   rw [Aw fun x _ => D7 _ _ _, NR]
   exact Aw fun b _ => Pq hs d b
  rw [e]; exact q02 0xa5415a008001420 rt
theorem LB (hs : 1 ≤ size ∧ size ≤ 3) (hB : ∀ m ∈ Am size ds, m.1 < B) (d0 : Int) :
  zs (fun x : Nat × Nat => (size : Int) * x.2 - x.1) (Jb (Af B size ds)).zipIdx = ps2 (By size) (ds.map fun d : Nat => (d : Int) - d0) := by
 rw [K5, Af, Kl _ _ _ _ hB, He hs, Kk]
 refine H4 fun a _ b _ => ?_
 unfold By
 repeat' split
 all_goals omega
noncomputable def Ey (dp : List Int) : List (Int × Int) := (List.range dp.length).flatMap fun j => (List.range j).map fun i => (dp.getD i 0, dp.getD j 0)
theorem GN (l : List α) (d : α) : ∀ j, j ≤ l.length → l.take j = (List.range j).map fun i => l.getD i d
 | 0, _ => rfl
 | j + 1, h => by
  rw [List.take_succ_eq_append_getElem (by omega), GN l d j (by omega), range_succ, map_append]
  simp [getD, getElem?_eq_getElem (show j < l.length by exact Aa 0x4a0290910000421 rt h)]
theorem KZ (f : Int → Int → Int) (dp : List Int) : zs (fun p : Int × Int => f p.1 p.2) (Ey dp) = ps2 f dp := by
 have h : ∀ n, n ≤ dp.length → zs (fun p : Int × Int => f p.1 p.2) ((List.range n).flatMap fun j => (List.range j).map fun i => (dp.getD i 0, dp.getD j 0)) = ps2 f (dp.take n) := by
  intro n
  induction n with
  | zero => intro _; rfl
  | succ n ih =>
   intro hn
   rw [range_succ, flatMap_append, AL, ih (by exact Aa 0x4a0090910000421 rt hn), List.take_succ_eq_append_getElem (by omega), Cg, List.flatMap_singleton, CN]
   have e1 : ps2 f [dp[n]] = 0 := rfl
   have e2 : zs (fun x => zs (f x) [dp[n]]) (dp.take n) = zs (fun i => f (dp.getD i 0) (dp.getD n 0)) (List.range n) := by
    rw [GN dp 0 n (by omega), CN]
    refine Aw fun i _ => ?_
    rw [zs, zs, add_zero]
    congr 1
    simp [getD, getElem?_eq_getElem (show n < dp.length by omega)]
   rw [e1, e2]
   show _ + zs (fun i => f (dp.getD i 0) (dp.getD n 0)) (List.range n) = _
   exact q02 0xa8094002b401420 rt
 have := h dp.length (le_refl _)
 rwa [take_length] at this
structure FS (size d0 : Nat) (ds : List Nat) : Prop where
 hd : ds.head? = some d0
 low : ∀ d ∈ ds, d0 ≤ d
 step : ∀ (i a b : Nat), ds[i]? = some a → ds[i + 1]? = some b → b ≤ a + size
noncomputable def pre (c : Nat) (ms : List (Nat × Bool)) : List (Nat × Bool) := ms.takeWhile fun m => decide (m.1 < c)
noncomputable def pst (c : Nat) (ms : List (Nat × Bool)) : List (Nat × Bool) := ms.dropWhile fun m => decide (m.1 < c)
theorem B3 (c : Nat) (ms : List (Nat × Bool)) : pre c ms ++ pst c ms = ms := List.takeWhile_append_dropWhile
theorem HQ : ∀ {ms : List (Nat × Bool)} {m : Nat × Bool}, m ∈ pre c ms → m.1 < c
 | [], m, h => by simp [pre] at h
 | x :: ms, m, h => by
  unfold pre at h
  rw [takeWhile_cons] at h
  split at h
  ·rename_i hx
   rcases List.mem_cons.mp h with rfl | h
   ·simpa using hx
   ·exact HQ h
  ·cases h
def Srt (ms : List (Nat × Bool)) : Prop := ms.Pairwise fun a b => a.1 ≤ b.1
theorem HR : ∀ {ms : List (Nat × Bool)} (hs : Srt ms) {m : Nat × Bool}, m ∈ pst c ms → c ≤ m.1
 | [], _, m, h => by simp [pst] at h
 | x :: ms, hs, m, h => by
  unfold pst at h
  rw [dropWhile_cons] at h
  obtain ⟨h1, h2⟩ := List.pairwise_cons.mp hs
  split at h
  ·exact HR h2 h
  ·rename_i hx
   have hx' : c ≤ x.1 := by simpa using hx
   rcases List.mem_cons.mp h with rfl | h
   ·exact hx'
   ·exact le_trans hx' (h1 m h)
theorem Dq : Srt (Af B size ds) := by
 unfold Srt
 rw [List.pairwise_iff_getElem]
 intro i j hi hj hij
 exact CG (k := fst) (B := B) (l := Am size ds) (getElem?_eq_getElem hi) (getElem?_eq_getElem hj) (le_of_lt hij)
def bef (b : Bool) (c : Nat) (ms : List (Nat × Bool)) : Nat := Bp b (pre c ms)
theorem LF (hs : Srt ms) (b : Bool) (c : Nat) : (bef b c ms : Int) = zs (fun m => if m.1 < c ∧ m.2 = b then 1 else 0) ms := by
 unfold bef
 rw [LU]
 conv => rhs; rw [← B3 c ms, AL]
 have e1 : zs (fun m : Nat × Bool => if m.1 < c ∧ m.2 = b then (1 : Int) else 0) (pst c ms) = 0 := by
  refine (Aw (g := fun _ => 0) fun m hm => if_neg ?_).trans (Cz _)
  exact fun ha => absurd ha.1 (Nat.not_lt.mpr (HR hs hm))
 rw [e1, add_zero]
 refine Aw fun m hm => ?_
 have := HQ hm
 by_cases hb : m.2 = b <;> simp [hb, this]
def opn (c d : Nat) : Int := if d < c then 1 else 0
def cls (size c d : Nat) : Int := zs (fun s => if d + s + 1 < c then 1 else 0) (List.range size)
theorem FX (hs : 1 ≤ size ∧ size ≤ 3) (hB : ∀ m ∈ Am size ds, m.1 < B) (c : Nat) : (bef true c (Af B size ds) : Int) = zs (opn c) ds := by
 rw [LF Dq, Af, E4 _ _ _ _ hB, Am, D7]
 refine Aw fun d _ => ?_
 unfold opn
 rcases sz3 hs with rfl | rfl | rfl <;> simp [HS, GY, GJ, zs]
theorem Df (hs : 1 ≤ size ∧ size ≤ 3) (hB : ∀ m ∈ Am size ds, m.1 < B) (c : Nat) : (bef false c (Af B size ds) : Int) = zs (cls size c) ds := by
 rw [LF Dq, Af, E4 _ _ _ _ hB, Am, D7]
 refine Aw fun d _ => ?_
 unfold cls
 rcases sz3 hs with rfl | rfl | rfl
 ·simp [HS, zs]
 ·simp [GY, zs, range_succ]
 ·simp [GJ, zs, range_succ]
theorem Gj (c : Nat) : ∀ ds : List Nat, (ds.count c : Int) = zs (fun d => if d = c then 1 else 0) ds
 | [] => rfl
 | d :: ds => by
  rw [zs, ← Gj c ds, count_cons]
  by_cases h : d = c
  ·subst h; simp; exact IW 0x8184800910301420 rt
  ·simp [h]
theorem MB (c : Nat) (ds : List Nat) : zs (opn (c + 1)) ds = zs (opn c) ds + ds.count c := by
 rw [Gj, ← GS]
 refine Aw fun d _ => ?_
 unfold opn
 rcases lt_trichotomy d c with h | h | h
 ·rw [if_pos (show d < c + 1 by omega), if_pos h, if_neg (show ¬ d = c by omega)]; rfl
 ·rw [if_pos (show d < c + 1 by omega), if_neg (show ¬ d < c by omega), if_pos h]; rfl
 ·rw [if_neg (show ¬ d < c + 1 by omega), if_neg (show ¬ d < c by omega), if_neg (show ¬ d = c by omega)]; rfl
def win (a n : Nat) (ds : List Nat) : Int := zs (fun d => if a ≤ d ∧ d < a + n then 1 else 0) ds
theorem MV (a : Nat) (ds : List Nat) : win a 0 ds = 0 := by
 unfold win
 exact (Aw (g := fun _ => 0) fun d _ => if_neg (by (exact fun ha => Aa 0xe0220090852800402 rt ha.1 ha.2))).trans (Cz _)
theorem MU (a n : Nat) (ds : List Nat) : win a (n + 1) ds = ds.count a + win (a + 1) n ds := by
 unfold win
 rw [Gj, ← GS]
 refine Aw fun d _ => ?_
 rcases lt_trichotomy d a with h | h | h
 ·rw [if_neg (show ¬ (a ≤ d ∧ d < a + (n + 1)) by omega), if_neg (show ¬ d = a by omega), if_neg (show ¬ (a + 1 ≤ d ∧ d < a + 1 + n) by omega)]; rfl
 ·rw [if_pos (show a ≤ d ∧ d < a + (n + 1) by omega), if_pos h, if_neg (show ¬ (a + 1 ≤ d ∧ d < a + 1 + n) by omega)]; rfl
 ·rw [if_neg (show ¬ d = a by omega), Int.zero_add]
  exact ite_congr (propext ⟨fun ha => ⟨by omega, by omega⟩, fun ha => ⟨by omega, by omega⟩⟩) (fun _ => rfl) fun _ => rfl
theorem Kx (ds : List Nat) (d0 : Nat) : ∀ (n k : Nat), (((range' k n).map fun t => (ds.count (d0 + t) : Int))).sum = win (d0 + k) n ds
 | 0, k => by simp [MV]
 | n + 1, k => by
  rw [List.range'_succ, map_cons, sum_cons, Kx ds d0 n (k + 1), MU]; rfl
theorem It (n c d : Nat) : cls (n + 1) c d = cls n c d + (if d + n + 1 < c then 1 else 0) := by
 unfold cls; rw [range_succ, AL]; exact congrArg _ (add_zero _)
theorem JN (c d : Nat) : ∀ n, cls n (c + 1) d = cls n c d + (if d < c ∧ c ≤ d + n then 1 else 0)
 | 0 => by rw [if_neg (by omega)]; rfl
 | n + 1 => by
  rw [It, It, JN c d n]
  rcases lt_trichotomy (d + n + 1) c with h | h | h
  ·rw [if_pos (show d + n + 1 < c + 1 by omega), if_pos h, if_neg (show ¬ (d < c ∧ c ≤ d + n) by omega), if_neg (show ¬ (d < c ∧ c ≤ d + (n + 1)) by omega), add_zero, add_zero]
  ·rw [if_pos (show d + n + 1 < c + 1 by omega), if_neg (show ¬ d + n + 1 < c by omega), if_neg (show ¬ (d < c ∧ c ≤ d + n) by omega), if_pos (show d < c ∧ c ≤ d + (n + 1) by omega)]
  ·rw [if_neg (show ¬ d + n + 1 < c + 1 by omega), if_neg (show ¬ d + n + 1 < c by omega), add_zero, add_zero]
   exact congrArg _ (ite_congr (propext ⟨fun ha => ⟨ha.1, by omega⟩, fun ha => ⟨ha.1, by omega⟩⟩) (fun _ => rfl) fun _ => rfl)
theorem LR (hs : 1 ≤ size ∧ size ≤ 3) (h : ∀ d ∈ ds, d0 ≤ d) (t : Nat) : zs (cls size (d0 + (t + 1) + 1)) ds = zs (cls size (d0 + t + 1)) ds + win (d0 + (t + 1 - size)) (t + 1 - (t + 1 - size)) ds := by
 unfold win
 rw [← GS]
 refine Aw fun d hd => ?_
 have := h d hd
 refine (JN (d0 + t + 1) d size).trans (congrArg _ (ite_congr (propext ?_) (fun _ => rfl) fun _ => rfl))
 rcases le_total size (t + 1) with q | q
 ·have e1 := sub_add_cancel q
  have e2 := sub_add_cancel (sub_le (t + 1) size)
  exact ⟨fun ha => ⟨by omega, by omega⟩, fun ha => ⟨by omega, by omega⟩⟩
 ·rw [Nat.sub_eq_zero_of_le q]
  exact ⟨fun ha => ⟨by omega, by omega⟩, fun ha => ⟨by omega, by omega⟩⟩
noncomputable def cm (size c d : Nat) : Option (Nat × Bool) := if d = c then some (c, true) else if d < c ∧ c ≤ d + size then some (c, false) else none
noncomputable def HI (size c : Nat) (ds : List Nat) : List (Nat × Bool) := ds.filterMap (cm size c)
theorem JA (hs : 1 ≤ size ∧ size ≤ 3) (c d : Nat) : (Co size d).filter (fun m => m.1 == c) = (cm size c d).toList := by
 unfold cm
 by_cases h : d = c
 ·subst h
  rcases sz3 hs with rfl | rfl | rfl <;> simp [HS, GY, GJ]
 ·rw [if_neg h]
  rcases sz3 hs with rfl | rfl | rfl
  ·by_cases h1 : d + 1 = c
   ·subst h1; rw [if_pos (by exact ⟨Aq 38923404320 rt, Aq 0x4880048800020 rt⟩)]; simp [HS]
   ·rw [if_neg (by omega)]; simp [HS, h, h1]
  ·by_cases h1 : d + 1 = c
   ·subst h1; rw [if_pos (by exact ⟨Aq 38923404320 rt, Aq 0x8880048800020 rt⟩)]; simp [GY]
   ·by_cases h2 : d + 2 = c
    ·subst h2; rw [if_pos (by exact ⟨Aq 73283142688 rt, Aq 0x8880088800020 rt⟩)]; simp [GY]
    ·rw [if_neg (by omega)]; simp [GY, h, h1, h2]
  ·by_cases h1 : d + 1 = c
   ·subst h1; rw [if_pos (by exact ⟨Aq 38923404320 rt, Aq 0xc880048800020 rt⟩)]; simp [GJ]
   ·by_cases h2 : d + 2 = c
    ·subst h2; rw [if_pos (by exact ⟨Aq 73283142688 rt, Aq 0xc880088800020 rt⟩)]; simp [GJ]
    ·by_cases h3 : d + 3 = c
     ·subst h3; rw [if_pos (by exact ⟨Aq 107642881056 rt, Aq 0xc8800c8800020 rt⟩)]; simp [GJ]
     ·rw [if_neg (by omega)]; simp [GJ, h, h1, h2, h3]
theorem CT (hs : 1 ≤ size ∧ size ≤ 3) (c : Nat) : ∀ ds : List Nat, (Am size ds).filter (fun m => m.1 == c) = HI size c ds
 | [] => rfl
 | d :: ds => by
  have ih := CT hs c ds
  unfold Am HI at ih ⊢
  rw [flatMap_cons, filter_append, ih, JA hs, filterMap_cons]
  cases cm size c d <;> rfl
theorem GB {k : α → Nat} (h : c < B) (l : List α) : (Al k B l).filter (fun y => k y == c) = l.filter (fun y => k y == c) := by
 rw [B2 k h l, filter_append, filter_append]
 have e1 : (Ek k 0 c l).filter (fun y => k y == c) = [] := Bd fun y hy => by have := (Cl hy).2.1; simp; exact Aa 0x9408c90100808601 rt this
 have e2 : (Ek k (c + 1) (B - c - 1) l).filter (fun y => k y == c) = [] := Bd fun y hy => by have := (Cl hy).1; simp; exact Aa 0x8488c90910000421 rt this
 have e3 : (l.filter fun y => k y == c).filter (fun y => k y == c) = l.filter fun y => k y == c := Cj fun y hy => (List.mem_filter.mp hy).2
 rw [e1, e2, e3]; simp
theorem Gs : ∀ (ds : List Nat) (d : Nat), ds.head? = some d → d < c → (∀ (i a b : Nat), ds[i]? = some a → ds[i + 1]? = some b → b ≤ a + size) → (HI size c ds).head? ≠ some (c, true)
 | [], _, h, _, _ => by cases h
 | d :: tl, d', h, hd, hst => by
  cases h
  unfold HI
  rw [filterMap_cons]
  unfold cm
  rw [if_neg (by exact Aa 325530914162177 rt hd)]
  by_cases hc : c ≤ d + size
  ·rw [if_pos ⟨hd, hc⟩]; simp
  ·rw [if_neg (by (exact fun ha => AB 0x3a9204002a4810030402 rt hc ha.2))]
   cases tl with
   | nil => simp
   | cons e tl =>
    have h1 := hst 0 d e rfl rfl
    exact Gs (e :: tl) e rfl (by exact B7 0x10b0a9205802a4810030422 rt hc h1) fun i a b h2 h3 => hst (i + 1) a b h2 h3
theorem GA (hs : 1 ≤ size ∧ size ≤ 3) (hB : ∀ m ∈ Am size ds, m.1 < B) (hp : FS size d0 ds) (hc : d0 < c) {m : Nat × Bool} {r : List (Nat × Bool)} (h : pst c (Af B size ds) = m :: r) : m.2 = false := by
 have hm1 : c ≤ m.1 := HR Dq (by rw [h]; exact .head _)
 have hmem : m ∈ Af B size ds := by rw [← B3 c (Af B size ds), h]; simp
 have hmB : m.1 < B := hB m (BW hmem)
 have e := GB (k := fst) hmB (Am size ds)
 rw [CT hs, show Al fst B (Am size ds) = Af B size ds from rfl, ← B3 c (Af B size ds), h, filter_append] at e
 rw [Bd (l := pre c (Af B size ds)) (fun y hy => by have := HQ hy; simp; exact AB 0x12a1190a0852800602 rt hm1 this)] at e
 rw [nil_append, List.filter_cons_of_pos (by simp)] at e
 have h2 := Gs (size := size) (c := m.1) ds d0 hp.hd (by exact AB 0xa405490052808422 rt hc hm1) hp.step
 rw [← e, List.head?_cons] at h2
 cases hb : m.2 with
 | false => rfl
 | true => exact absurd (show some m = some (m.1, true) by rw [← hb]) h2
theorem IN (c : Nat) (ms : List (Nat × Bool)) : ms.take (pre c ms).length = pre c ms := by
 conv => lhs; rw [← B3 c ms]
 rw [B3]
 conv => lhs; arg 2; rw [← B3 c ms]
 rw [take_left' rfl]
theorem Hg (hs : 1 ≤ size ∧ size ≤ 3) (hB : ∀ m ∈ Am size ds, m.1 < B) (hp : FS size d0 ds) (hc : d0 < c) (hlt : bef false c (Af B size ds) < (A7 false 0 (Af B size ds)).length) :
  (A7 false 0 (Af B size ds))[bef false c (Af B size ds)]? = some (pre c (Af B size ds)).length := by
 have e := B3 c (Af B size ds)
 cases hq : pst c (Af B size ds) with
 | nil =>
  rw [hq, append_nil] at e
  unfold bef at hlt
  rw [e] at hlt
  exact absurd hlt (lt_irrefl _)
 | cons m r =>
  have hm := GA hs hB hp hc hq
  rw [hq] at e
  have hget : (Af B size ds)[(pre c (Af B size ds)).length]? = some m := by
   conv => lhs; arg 1; rw [← e]
   rw [getElem?_append_right (le_refl _)]
   simp
  have := Fw hget hm
  rw [IN] at this
  exact this
theorem HF (c : Nat) {p : Nat} (h : (A7 true 0 ms)[j]? = some p) : j < bef true c ms ↔ p < (pre c ms).length := by
 have := FL (k := (pre c ms).length) h
 rw [IN] at this
 exact this
theorem LE (b : Bool) (c : Nat) (ms : List (Nat × Bool)) : bef b c ms ≤ (A7 b 0 ms).length := by
 have e := Gf b (pre c ms) (pst c ms)
 rw [B3] at e
 unfold bef
 show _ ≤ Bp b ms
 exact AB 9324211873071137 rt e
theorem Fl (hB : ∀ m ∈ Am size ds, m.1 < B) (hdm : dm ∈ ds) (hs : 1 ≤ size ∧ size ≤ 3) (hc : c ≤ dm + size) : bef false c (Af B size ds) < (A7 false 0 (Af B size ds)).length := by
 have h1 := Df (c := c) hs hB
 have h2 := Df (c := dm + size + 1) hs hB
 have h3 := LE false (dm + size + 1) (Af B size ds)
 have h4 : zs (cls size c) ds < zs (cls size (dm + size + 1)) ds := by
  have : ∀ l : List Nat, dm ∈ l → zs (cls size c) l < zs (cls size (dm + size + 1)) l := by
   have hle : ∀ d, cls size c d ≤ cls size (dm + size + 1) d := fun d => F8 fun s _ => by
    repeat' split
    all_goals (first | exact Cs 1208093728 rt | exact Cs 1209142304 rt | exact Cs 134351904 rt | exact FE 0x20483091490002462c00098280918b000215240800443 rt hc ‹_› ‹_›)
   intro l
   induction l with
   | nil => intro h; cases h
   | cons d l ih =>
    intro h
    rw [zs, zs]
    rcases List.mem_cons.mp h with rfl | h
    ·have := F8 (l := l) fun d _ => hle d
     have : cls size c dm < cls size (dm + size + 1) dm := by
      unfold cls
      rcases sz3 hs with rfl | rfl | rfl
      all_goals
       simp [zs, range_succ]
       repeat' split
       all_goals (first | exact Cs 0x3200802000401020 rt | exact Cs 0x3200802002401020 rt | exact Cs 0x3200812000401020 rt | exact Cs 0x3200812002401020 rt | exact Cs 0x3204802000401020 rt | exact Cs 0x3204802002401020 rt | exact Cs 0x3204812000401020 rt | exact Cs 1208094752 rt | exact Cs 74771089854496 rt | exact Cs 74771123408928 rt | exact Cs 74805449592864 rt | exact Aa 0x12048440489004212240800422 rt hc ‹_› | exact Aa 0x6409024004802202411120004232240800422 rt hc ‹_› | exact Aa 0x881204802202409120004222240800422 rt hc ‹_›)
     exact l04 0x15b8296012f6206b418422 rt ‹_› this
    ·have := ih h
     have := hle d
     exact l04 0x15b8296012f6186b420422 rt ‹_› this
  exact this ds hdm
 exact l32 0x2901ad08152401aa4658510328424 rt h1 h2 h3 h4
theorem Jk (hB : ∀ m ∈ Am size ds, m.1 < B) (hdm : ∀ d ∈ ds, d ≤ dm) (hc : dm + size < c) : bef false c (Af B size ds) = (A7 false 0 (Af B size ds)).length := by
 have e := B3 c (Af B size ds)
 have : pst c (Af B size ds) = [] := by
  cases hq : pst c (Af B size ds) with
  | nil => rfl
  | cons m r =>
   have hm1 : c ≤ m.1 := HR Dq (by rw [hq]; exact .head _)
   have hmem : m ∈ Af B size ds := by rw [← B3 c (Af B size ds), hq]; simp
   obtain ⟨d, hd, _, h2, _⟩ := Go (BW hmem)
   have := hdm d hd
   omega
 rw [this, append_nil] at e
 unfold bef
 rw [e]
theorem Kj (hp : FS size d0 ds) : ∀ (i d : Nat), ds[i]? = some d → d ≤ d0 + i * size
 | 0, d, h => by
  have := hp.hd
  rw [List.head?_eq_getElem?] at this
  rw [this] at h; cases h; exact Aa 9902315798560 rt
 | i + 1, d, h => by
  obtain ⟨hi, _⟩ := List.getElem?_eq_some_iff.mp h
  have h1 := Kj hp i ds[i] (getElem?_eq_getElem (by exact Aa 0x4a0290910008421 rt hi))
  have h2 := hp.step i ds[i] d (getElem?_eq_getElem (by exact Aa 0x4a0290910008421 rt hi)) h
  rw [succ_mul]; exact FE 0xc501205818802c015240800422 rt h1 h2
theorem IH (hp : FS size d0 ds) (hdm : dm ∈ ds) : dm + size ≤ d0 + ds.length * size := by
 obtain ⟨i, hi, e⟩ := List.mem_iff_getElem.mp hdm
 have h1 := Kj hp i dm (List.getElem?_eq_some_iff.mpr ⟨hi, e⟩)
 have h2 : (i + 1) * size ≤ ds.length * size := mul_le_mul_right _ hi
 rw [succ_mul] at h2
 exact FE 0xc481680018b500015240800422 rt h1 h2
theorem ID (hB : ∀ m ∈ Am size ds, m.1 < B) : (Af B size ds).length = ds.length * (size + 1) := by
 unfold Af
 rw [CV _ _ _ hB, DF]
theorem MG (p : List α) (s : Nat) (hs : 1 ≤ s) : pick p (some (-(s : Int))) none none = p.drop (p.length - s) := by
 rw [BK]
 show (p.drop (clipAt p.length (-(s : Int)))).take (p.length - clipAt p.length (-(s : Int))) = _
 have h := clipAt_cast p.length (-(s : Int))
 rw [if_pos (by exact Aq 0x220622202400421 rt hs)] at h
 have e : clipAt p.length (-(s : Int)) = p.length - s := by
  rw [Int.min_eq_left (by omega), Int.max_comm, Int.add_comm, ← Int.sub_eq_add_neg, ← Int.ofNat_toNat, Int.toNat_sub] at h
  exact Int.ofNat.inj h
 rw [e, take_of_length_le (by rw [length_drop]; exact Aq 8650784 rt)]
theorem Kt {b : Int} (hb : 0 ≤ b) : ∀ {l : List Int}, (∀ x ∈ l, -b ≤ x ∧ x ≤ b) → -(b * l.length) ≤ l.sum ∧ l.sum ≤ b * l.length
 | [], _ => by simp
 | x :: l, h => by
  have h1 := h x (.head _)
  have h2 := Kt hb (l := l) fun y hy => h y (.tail _ hy)
  rw [sum_cons, length_cons]
  have : b * ((l.length + 1 : Nat) : Int) = b * l.length + b := by rw [natCast_add, mul_add]; simp
  exact ⟨l05 0xbd41810e96060b0bd8430d68218423 rt h1.1 h2.1 this, l05 0x18b5003adc182c2f6186b418423 rt h1.2 h2.2 this⟩
theorem Gn {l : List Int} (b : Nat) (hl : l.length ≤ c) (hbc : b * (c + 1) < 2 ^ 62) (h : ∀ x ∈ l, -(b : Int) ≤ x ∧ x ≤ b) : ∀ j, j < l.length → InLong (l.getD j 0) ∧ InLong (l.take (j + 1)).sum := fun j hj => by
 have h1 := h (l.getD j 0) (by rw [getD_eq_getElem?_getD, getElem?_eq_getElem hj]; exact getElem_mem hj)
 have h2 := Kt (b := b) (by exact l11 0x103010681d061a206218442 rt h1.1 h1.2) (l := l.take (j + 1)) fun x hx => h x (mem_of_mem_take hx)
 have h3 : (l.take (j + 1)).length ≤ c := by rw [length_take]; exact AB 0x95010a0052800422 rt hl (min_le_right _ _)
 have h4 : b * (l.take (j + 1)).length ≤ b * (c + 1) := Nat.mul_le_mul_left _ (by exact Aa 0x91204012800421 rt h3)
 have h5 : b ≤ b * (c + 1) := Nat.le_mul_of_pos_right _ (by exact Aq 1245540647968 rt)
 have h6 : ((b * (l.take (j + 1)).length : Nat) : Int) = (b : Int) * (l.take (j + 1)).length := by simp
 constructor <;> (unfold InLong; (first | exact ⟨l21 0xa20000000000000001a510d090068918861200000000000000034a808423 rt hbc h1.1 h5, l21 0x10000000000000000d2d088480291d061200000000000000034a808423 rt hbc h1.2 h5⟩ | exact ⟨l22 0xaa0000000000000001a510e891960848035a0861200000000000000034a808424 rt hbc h2.1 h4 h6, l22 0x10000000000000000d2d09548cb042401ad061200000000000000034a808424 rt hbc h2.2 h4 h6⟩))
structure Bou (cl op : List Nat) (both size T : Nat) (P K O N : Nat → Nat) : Prop where
 len : cl.length + op.length = both
 t : T ≤ both
 more : ∀ t, t < T → K t < cl.length
 all : K T = cl.length
 at_ : ∀ t, t < T → cl[K t]? = some (P t)
 lt : ∀ t, t < T → ∀ j p, op[j]? = some p → (j < O (t + 1) ↔ p < P t)
 ol : ∀ t, O t ≤ op.length
 o0 : O 0 = 0
 os : ∀ t, O (t + 1) = O t + N t
 k0 : K 0 = 0
 ks : ∀ t, K (t + 1) = K t + ((range' (t + 1 - size) (t + 1 - (t + 1 - size))).map N).sum
theorem Gc (N : α → Nat) : ∀ l : List α, (((l.map N).sum : Nat) : Int) = (l.map fun t => (N t : Int)).sum
 | [] => rfl
 | x :: l => by rw [map_cons, map_cons, sum_cons, sum_cons, ← Gc N l]; simp
theorem ME {r : Nat} (hs : 1 ≤ size ∧ size ≤ 3) (hB : ∀ m ∈ Am size ds, m.1 < B) (hp : FS size d0 ds) (hr : d0 + r ∈ ds) (hr' : ∀ d ∈ ds, d ≤ d0 + r) :
  Bou (A7 false 0 (Af B size ds)) (A7 true 0 (Af B size ds)) (Af B size ds).length size (r + size) (fun t => (pre (d0 + t + 1) (Af B size ds)).length) (fun t => bef false (d0 + t + 1) (Af B size ds)) (fun t => bef true (d0 + t) (Af B size ds)) (fun t => ds.count (d0 + t)) := by
 have more : ∀ t, t < r + size → bef false (d0 + t + 1) (Af B size ds) < (A7 false 0 (Af B size ds)).length := fun t ht => Fl hB hr hs (by exact B7 0x5256000488580005240808421 rt ht)
 constructor
 ·have := Di (Af B size ds)
  unfold Bp at this; exact Ez 0xa424025250014021 rt this
 ·have h1 := IH hp hr
  rw [ID hB, Nat.mul_add]; exact FE 0xc09d60524005a00a4a00000421 rt h1
 ·exact more
 ·exact Jk hB hr' (by exact AB 0x9149020005250000420 rt)
 ·intro t ht
  exact Hg hs hB hp (by exact Aa 39900246443040 rt) (more t ht)
 ·intro t ht j p h
  exact HF _ h
 ·intro t
  exact LE _ _ _
 ·have h := FX (c := d0) hs hB
  have h2 : zs (opn d0) ds = 0 := (Aw (g := fun _ => 0) fun d hd => if_neg (by have := hp.low d hd; exact Aa 291411693929505 rt this)).trans (Cz _)
  show bef true (d0 + 0) _ = 0
  rw [Nat.add_zero]; exact q11 0x110201285851032c022 rt h h2
 ·intro t
  have h1 := FX (c := d0 + t) hs hB
  have h2 := FX (c := d0 + t + 1) hs hB
  have h3 := MB (d0 + t) ds
  show bef true (d0 + t + 1) _ = bef true (d0 + t) _ + ds.count (d0 + t)
  exact q32 0x5200912874054b0aa4658510328423 rt h1 h2 h3
 ·have h := Df (c := d0 + 0 + 1) hs hB
  have h2 : zs (cls size (d0 + 0 + 1)) ds = 0 := (Aw (g := fun _ => 0) fun d hd => by
   unfold cls
   refine (Aw (g := fun _ => 0) fun s _ => if_neg ?_).trans (Cz _)
   have := hp.low d hd; exact AB 0x12008800024524000992800421 rt this).trans (Cz _)
  show bef false (d0 + 0 + 1) _ = 0
  exact q11 0x110201285851032c022 rt h h2
 ·intro t
  have h1 := Df (c := d0 + t + 1) hs hB
  have h2 := Df (c := d0 + (t + 1) + 1) hs hB
  have h3 := LR (d0 := d0) hs hp.low t
  have h4 := Kx ds d0 (t + 1 - (t + 1 - size)) (t + 1 - size)
  rw [← Gc] at h4
  show bef false (d0 + (t + 1) + 1) _ = bef false (d0 + t + 1) _ + _
  exact q33 0x5200915943286d4054b0aa4658510328424 rt h1 h2 h3 h4
theorem Mz (hid : List (List Nat)) (j : Nat) : (CD hid).getD j [] = if (hid.getD j []).take 1 = [92] then hid.getD j [] else [] := by
 unfold CD
 rw [getD_eq_getElem?_getD, getD_eq_getElem?_getD, getElem?_map]
 cases hid[j]? <;> rfl
theorem E1 (hid : List (List Nat)) : ∀ z : List (Bool × Nat), ES 1 hid z = AY (CD hid) z
 | [] => rfl
 | x :: z => by
  have ih := E1 hid z
  unfold ES AY at ih ⊢
  rw [flatMap_cons, flatMap_cons, ih, Mz]
  congr 1
  unfold EG
  obtain ⟨b, n⟩ := x
  generalize hid.getD (n % 5) [] = p
  by_cases hp : p.take 1 = [92]
  ·have hne : p ≠ [] := fun h => by rw [h] at hp; cases hp
   rw [if_pos hp, if_pos hp]
   cases b <;> simp [DL, HP, sgn, hne]
  ·rw [if_neg hp, if_neg hp]
   cases b <;> simp [DL, HP, sgn]
theorem GF : ∀ (us pre : List (List Nat)), (∀ u ∈ us, u ≠ []) → (EO pre.flatten.length us).map (fun u => ((u.1 : Int), u.2)) = (us.zipIdx pre.length).map fun x => ((((pre ++ us).take (x.2 + 1)).flatten.length : Int) - 1, x.1)
 | [], _, _ => rfl
 | u :: us, pre, h => by
  have hu := List.length_pos_iff.mpr (h u (.head _))
  have ih := GF us (pre ++ [u]) fun v hv => h v (.tail _ hv)
  rw [flatten_append, length_append, List.flatten_singleton, length_append, List.length_singleton] at ih
  rw [EO, map_cons, List.zipIdx_cons, map_cons]
  rw [show pre ++ [u] ++ us = pre ++ u :: us by simp] at ih
  rw [ih]
  have e : ((pre ++ u :: us).take (pre.length + 1)).flatten.length = pre.flatten.length + u.length := by
   rw [List.take_append, take_of_length_le (by exact Aq 38923403296 rt), show pre.length + 1 - pre.length = 1 by exact GH 0x488104890250014021 rt (sub_add_cancel (Aq 38923403296 rt)), flatten_append, length_append]
   simp
  have e2 : ((pre.flatten.length + u.length - 1 : Nat) : Int) = ((((pre ++ u :: us).take (pre.length + 1)).flatten.length : Nat) : Int) - 1 := by rw [e]; exact Ez 0x122920185032a9200910014021 rt (sub_add_cancel (Aa 0x8480240200408421 rt hu))
  show (((pre.flatten.length + u.length - 1 : Nat) : Int), u) :: _ = _
  rw [e2]
theorem MR (hid : List (List Nat)) (bs : List Bool) (tl : List Nat) : ∀ u ∈ Bi bs hid tl, u ≠ [] := fun u hu => by
 unfold Bi at hu
 rcases List.mem_append.mp hu with q | q
 ·unfold AY at q
  obtain ⟨x, _, hx⟩ := List.mem_flatMap.mp q
  have := (List.mem_filter.mp hx).2
  simpa using this
 ·obtain ⟨c, _, rfl⟩ := List.mem_map.mp q
  simp
theorem KT (hh : Hid hid) (bs : List Bool) (ht : tl ∈ Eo) :
  (esc 0 false (BL (Bo bs 1 hid tl))).map (fun u => ((u.1 : Int), u.2)) = Bg (Bi bs hid tl) := by
 rw [(DV _ 0).1]
 show (EO 0 (Dn (BL (Bo bs 1 hid tl)))).map _ = _
 rw [Fy, GO hh, (E0 tl ht).1, E1]
 exact GF (Bi bs hid tl) [] (MR hid bs tl)
theorem HO (hh : Hid hid) (bs : List Bool) (ht : tl ∈ Eo) :
  (Bi bs hid tl).filter (fun u => u == [40] || u == [41]) = bs.map sgn := by
 unfold Bi
 rw [← E1, filter_append]
 have e1 : (tl.map fun c => [c]).filter (fun u => u == [40] || u == [41]) = [] := List.filter_eq_nil_iff.mpr fun u hu => by
  have h := E0 tl ht
  have := h.2 u (by rw [h.1]; exact hu)
  simp [this]
 rw [e1, append_nil]
 generalize 0 = k
 induction bs generalizing k with
 | nil => rfl
 | cons b bs ih =>
  rw [List.zipIdx_cons]
  unfold ES at ih ⊢
  rw [flatMap_cons, filter_append, ih, filter_append]
  have e2 : (EG (hid.getD (k % 5) [])).filter (fun u => u == [40] || u == [41]) = [] := List.filter_eq_nil_iff.mpr fun u hu => by
   have := (hh (k % 5)).no u hu
   simp [this]
  show (List.filter _ (HP (DL 1 b)) ++ List.filter _ (EG (hid.getD (k % 5) []))) ++ _ = _
  rw [e2]
  cases b <;> rfl
theorem Li (bs : List Bool) (hb : bs.length ≤ 24) (htl : tl.length ≤ 20) : (Bi bs hid tl).length ≤ 300 := by
 have hub : ∀ bs' : List (Bool × Nat), (AY (CD hid) bs').length ≤ bs'.length * 2 := fun bs' => by
  unfold AY
  induction bs' with
  | nil => simp
  | cons b bs' ih =>
   have h2 : ([sgn b.1, (CD hid).getD (b.2 % 5) []].filter fun y => decide (y ≠ [])).length ≤ 2 := length_filter_le _ _
   simp only [flatMap_cons, length_append, length_cons]
   exact AB 0x489008e85000222801488e800422 rt ih h2
 have := hub bs.zipIdx
 unfold Bi
 rw [length_append, length_map]
 rw [List.length_zipIdx] at this
 exact AB 0x12c1152a001023a801a11200e08800823 rt hb htl this
noncomputable def E5 (size c d : Nat) : Option Bool := if d = c then some true else if d < c ∧ c ≤ d + size then some false else none
def Ch (size col : Nat) : List Nat → Prop
 | a :: b :: l => (b = col → a < col → col ≤ a + size) ∧ Ch size col (b :: l)
 | _ => True
theorem Ch.tail {a : Nat} : ∀ {l : List Nat}, Ch size col (a :: l) → Ch size col l
 | [], _ => trivial
 | _ :: _, h => h.2
theorem Hj {size col : Nat} : ∀ (es : List Nat), (∀ (i a b : Nat), es[i]? = some a → es[i + 1]? = some b → b ≤ a + size) → Ch size col (es.filter fun x => decide (x ≤ col))
 | [], _ => trivial
 | a :: tl, h => by
  have ih := Hj (size := size) (col := col) tl fun i x y h1 h2 => h (i + 1) x y h1 h2
  rw [filter_cons]
  split
  ·rename_i ha
   cases hq : tl.filter fun x => decide (x ≤ col) with
   | nil => trivial
   | cons b l =>
    rw [hq] at ih
    refine ⟨fun hb hlt => ?_, ih⟩
    cases tl with
    | nil => simp at hq
    | cons t tl2 =>
     have h1 := h 0 a t rfl rfl
     rw [filter_cons] at hq
     split at hq
     ·injection hq with e1 e2; exact FE 0xc581204285062c0a0052814023 rt hb h1 e1
     ·rename_i ht
      have : ¬ t ≤ col := by simpa using ht
      exact B7 0x14902c0b400c15240800422 rt h1 this
  ·exact ih
theorem Kf {R : List Bool} (hR : R.head? ≠ some true) : ∀ l : List Nat, Ch size col l → (∀ x ∈ l, x ≤ col) → (∀ d, l.head? = some d → d < col) → (l.filterMap (E5 size col) ++ R).head? ≠ some true
 | [], _, _, _ => hR
 | d :: l, hc, hle, hd => by
  have hdc := hd d rfl
  rw [filterMap_cons]
  by_cases h1 : col ≤ d + size
  ·rw [show E5 size col d = some false by unfold E5; rw [if_neg (by exact Aa 325530914162177 rt hdc), if_pos ⟨hdc, h1⟩]]
   simp
  ·rw [show E5 size col d = none by unfold E5; rw [if_neg (by exact Aa 325530914162177 rt hdc), if_neg (by (exact fun ha => AB 0x3a9204002a4810030402 rt h1 ha.2))]]
   refine Kf hR l hc.tail (fun x hx => hle x (.tail _ hx)) fun e he => ?_
   cases l with
   | nil => cases he
   | cons f l =>
    cases he
    have h2 := hc.1
    have h3 := hle e (.tail _ (.head _))
    omega
theorem GK {size col : Nat} : ∀ l : List Nat, l.filterMap (E5 size col) = replicate (l.takeWhile (· == col)).length true ++ (l.dropWhile (· == col)).filterMap (E5 size col)
 | [] => rfl
 | d :: l => by
  by_cases h : d = col
  ·subst h
   have ih := GK (size := size) (col := d) l
   rw [filterMap_cons, show E5 size d d = some true by unfold E5; rw [if_pos rfl]]
   simp only [takeWhile_cons, dropWhile_cons, beq_self_eq_true, if_true, length_cons, replicate_succ, cons_append]
   rw [ih]
  ·have : (d == col) = false := by simpa using h
   simp [takeWhile_cons, dropWhile_cons, this]
theorem IO : ∀ l : List Nat, l.takeWhile (· == col) = replicate (l.takeWhile (· == col)).length col
 | [] => rfl
 | d :: l => by
  rw [takeWhile_cons]
  split
  ·rename_i h
   have : d = col := by simpa using h
   rw [length_cons, replicate_succ, ← IO l, this]
  ·rfl
theorem OD (m : Nat) {r : List Bool} (h : r.head? ≠ some true) : ((replicate m true ++ r).takeWhile id).length = m := by
 induction m with
 | zero =>
  cases r with
  | nil => rfl
  | cons b r =>
   cases b with
   | true => exact absurd rfl h
   | false => rfl
 | succ m ih =>
  show ((true :: (replicate m true ++ r)).takeWhile id).length = _
  rw [List.takeWhile_cons_of_pos rfl, length_cons, ih]
theorem KI {l : List Nat} {d : Nat} (hle : ∀ x ∈ l, x ≤ col) (h : (l.dropWhile (· == col)).head? = some d) : d < col := by
 induction l with
 | nil => cases h
 | cons a l ih =>
  rw [dropWhile_cons] at h
  split at h
  ·exact ih (fun x hx => hle x (.tail _ hx)) h
  ·rename_i ha
   have h1 : ¬ a = col := by simpa using ha
   have h2 := hle a (.head _)
   cases h
   omega
theorem Ch.dropW : ∀ {l : List Nat}, Ch size col l → Ch size col (l.dropWhile (· == col))
 | [], _ => trivial
 | a :: l, h => by
  rw [dropWhile_cons]
  split
  ·exact Ch.dropW h.tail
  ·exact h
theorem E9 {signs : List Bool} {size col : Nat} {R : List Bool} (hR : R.head? ≠ some true) : ∀ (tl : List Nat) (at1 : Nat) (g : List Nat), Ch size col tl → (∀ x ∈ tl, x ≤ col) → signs.drop at1 = (tl.dropWhile (· == col)).filterMap (E5 size col) ++ R →
  (tl.filter fun x => decide (x < col)).foldl (AD signs size col) (at1, g ++ tl.takeWhile (· == col)) = (at1 + ((tl.dropWhile (· == col)).filterMap (E5 size col)).length, g ++ tl)
 | [], at1, g, _, _, _ => rfl
 | d :: tl, at1, g, hc, hle, hdrop => by
  have hle' : ∀ x ∈ tl, x ≤ col := fun x hx => hle x (.tail _ hx)
  by_cases hd : d = col
  ·subst hd
   rw [List.filter_cons_of_neg (by simp)]
   simp only [takeWhile_cons, dropWhile_cons, beq_self_eq_true, if_true] at hdrop ⊢
   have ih := E9 hR tl at1 (g ++ [d]) hc.tail hle' hdrop
   rw [show g ++ d :: List.takeWhile (fun x => x == d) tl = g ++ [d] ++ tl.takeWhile (· == d) by simp, ih]
   simp
  ·have hlt : d < col := by have := hle d (.head _); omega
   have hb : (d == col) = false := by simpa using hd
   simp only [takeWhile_cons, dropWhile_cons, hb] at hdrop ⊢
   simp only [false_eq_true, if_false] at hdrop ⊢
   rw [List.filter_cons_of_pos (by simpa using hlt), foldl_cons, append_nil]
   have hno := Kf hR _ (hc.tail.dropW) (fun x hx => hle' x ((List.dropWhile_sublist _).subset hx)) (fun d h => KI hle' h)
   by_cases hcl : col ≤ d + size
   ·have e1 : E5 size col d = some false := by unfold E5; rw [if_neg hd, if_pos ⟨hlt, hcl⟩]
    rw [filterMap_cons, e1] at hdrop ⊢
    have hd2 : signs.drop (at1 + 1) = replicate (tl.takeWhile (· == col)).length true ++ ((tl.dropWhile (· == col)).filterMap (E5 size col) ++ R) := by
     rw [← drop_drop, hdrop, cons_append, List.drop_one, List.tail_cons, GK tl, append_assoc]
    have htw : ((signs.drop (at1 + 1)).takeWhile id).length = (tl.takeWhile (· == col)).length := by rw [hd2, OD _ hno]
    have e2 : AD signs size col (at1, g) d = (at1 + 1 + (tl.takeWhile (· == col)).length, (g ++ [d]) ++ tl.takeWhile (· == col)) := by
     unfold AD
     rw [if_pos ⟨hcl, hlt⟩, htw]
     refine Prod.ext rfl ?_
     show g ++ [d] ++ replicate _ col = g ++ [d] ++ tl.takeWhile (· == col)
     rw [← IO tl]
    rw [e2]
    have hd3 : signs.drop (at1 + 1 + (tl.takeWhile (· == col)).length) = (tl.dropWhile (· == col)).filterMap (E5 size col) ++ R := by
     rw [← drop_drop, hd2, drop_left' (by simp)]
    rw [E9 hR tl _ (g ++ [d]) hc.tail hle' hd3]
    refine Prod.ext ?_ (by simp)
    show at1 + 1 + _ + _ = at1 + (false :: tl.filterMap (E5 size col)).length
    rw [GK tl, length_cons, length_append, length_replicate]; exact Ez 0x48a48008029212200000820 rt
   ·have e1 : E5 size col d = none := by unfold E5; rw [if_neg hd, if_neg (by (exact fun ha => AB 0x3a9204002a4810030402 rt hcl ha.2))]
    rw [filterMap_cons, e1] at hdrop ⊢
    have htw : tl.takeWhile (· == col) = [] := by
     cases tl with
     | nil => rfl
     | cons f l =>
      have h2 := hc.1
      rw [takeWhile_cons, if_neg]
      intro hf
      have : f = col := by simpa using hf
      omega
    have hdw : tl.dropWhile (· == col) = tl := by
     have := List.takeWhile_append_dropWhile (p := fun x => x == col) (l := tl)
     rw [htw] at this; simpa using this
    have e2 : AD signs size col (at1, g) d = (at1, g ++ [d]) := by
     unfold AD; rw [if_neg (by (exact fun ha => AB 0x3a9204002a4810030402 rt hcl ha.1))]
    have hd3 : signs.drop at1 = (tl.dropWhile (· == col)).filterMap (E5 size col) ++ R := by rw [hdw]; exact hdrop
    have ih := E9 hR tl at1 (g ++ [d]) hc.tail hle' hd3
    rw [htw, append_nil, hdw] at ih
    rw [e2, ih]
    simp
theorem Gg (hs : 1 ≤ size ∧ size ≤ 3) (hB : ∀ m ∈ Am size ds, m.1 < B) (c : Nat) : (Af B size ds).filter (fun m => m.1 == c) = HI size c ds := by
 rcases lt_or_ge c B with h | h
 ·unfold Af
  rw [GB h, CT hs]
 ·rw [← CT hs, Bd fun m hm => ?_, Bd fun m hm => ?_]
  ·have := hB m hm; simp; exact AB 0x12a1190a0852800602 rt h this
  ·have := hB m (BW hm); simp; exact AB 0x12a1190a0852800602 rt h this
theorem IL (c : Nat) (hs : Srt ms) : pst c ms = ms.filter (fun m => m.1 == c) ++ pst (c + 1) ms ∧ pre (c + 1) ms = pre c ms ++ ms.filter fun m => m.1 == c := by
 induction ms with
 | nil => exact ⟨rfl, rfl⟩
 | cons m ms ih =>
  obtain ⟨h1, h2⟩ := List.pairwise_cons.mp hs
  obtain ⟨i1, i2⟩ := ih h2
  simp only [pst, pre] at i1 i2 ⊢
  simp only [dropWhile_cons, takeWhile_cons, filter_cons]
  rcases lt_trichotomy m.1 c with q | q | q
  ·have e1 : decide (m.1 < c) = true := by simpa using q
   have e2 : decide (m.1 < c + 1) = true := by simp; exact Aa 0x91204052808421 rt q
   have e3 : (m.1 == c) = false := by simp; exact Aa 325530914162177 rt q
   rw [e1, e2, e3]
   exact ⟨i1, by simp only [if_true, false_eq_true, if_false]; rw [i2]; rfl⟩
  ·have e1 : decide (m.1 < c) = false := by simp; exact Aa 9105641127969 rt q
   have e2 : decide (m.1 < c + 1) = true := by simp; exact Aa 0x91204052810421 rt q
   have e3 : (m.1 == c) = true := by simpa using q
   have e4 : ms.takeWhile (fun m => decide (m.1 < c)) = [] := by
    cases ms with
    | nil => rfl
    | cons y ys =>
     have := h1 y (.head _)
     rw [List.takeWhile_cons_of_neg (by simp; exact AB 0xa481480052814022 rt q this)]
   have e5 : ms.dropWhile (fun m => decide (m.1 < c)) = ms := by
    have := List.takeWhile_append_dropWhile (p := fun m : Nat × Bool => decide (m.1 < c)) (l := ms)
    rw [e4] at this; simpa using this
   rw [e4] at i2
   rw [e5] at i1
   rw [e1, e2, e3]
   refine ⟨?_, ?_⟩
   ·simp only [false_eq_true, if_false, if_true]
    conv => lhs; rw [i1]
    rfl
   ·simp only [false_eq_true, if_false, if_true]
    rw [i2]; rfl
  ·have e1 : decide (m.1 < c) = false := by simp; exact Aa 0x94012808421 rt q
   have e2 : decide (m.1 < c + 1) = false := by simp; exact Aa 0x484880012808421 rt q
   have e3 : (m.1 == c) = false := by simp; exact Aa 291446053700641 rt q
   have e4 : ms.filter (fun m => m.1 == c) = [] := Bd fun y hy => by have := h1 y hy; simp; exact AB 0x10a119490052808422 rt q this
   rw [e1, e2, e3, e4]
   exact ⟨rfl, rfl⟩
theorem JO (col : Nat) (hlow : ∀ d ∈ ds, d0 ≤ d) : (HI size (d0 + col) ds).map (·.2) = ((ds.map (· - d0)).filter fun x => decide (x ≤ col)).filterMap (E5 size col) := by
 induction ds with
 | nil => rfl
 | cons d ds ih =>
  have hd := hlow d (.head _)
  have ih := ih fun e he => hlow e (.tail _ he)
  unfold HI at ih ⊢
  rw [filterMap_cons, map_cons, filter_cons]
  by_cases h1 : d = d0 + col
  ·have e1 : cm size (d0 + col) d = some (d0 + col, true) := by unfold cm; rw [if_pos h1]
   have e2 : E5 size col (d - d0) = some true := by unfold E5; rw [if_pos (by exact q40 0xa58909580505240814022 rt h1 (sub_add_cancel (Aa 0x94012800421 rt hd)))]
   rw [e1, if_pos (by simp; exact AB 0x9501005240810421 rt h1), filterMap_cons, e2]
   simp only [map_cons]
   rw [ih]
  ·by_cases h2 : d < d0 + col ∧ d0 + col ≤ d + size
   ·have e1 : cm size (d0 + col) d = some (d0 + col, false) := by unfold cm; rw [if_neg h1, if_pos h2]
    have e2 : E5 size col (d - d0) = some false := by unfold E5; rw [if_neg (by exact B7 0x14b11909580415240808602 rt h2.1 (sub_add_cancel (Aa 0x94012800421 rt hd))), if_pos (by exact ⟨B7 0xa58509580415240808422 rt h2.1 (sub_add_cancel (Aa 0x94012800421 rt hd)), FE 0xb60120521801416a0250000422 rt h2.2 (sub_add_cancel (Aa 0x94012800421 rt hd))⟩)]
    rw [e1, if_pos (by simp; exact AB 0x9501005240808421 rt h2.1), filterMap_cons, e2]
    simp only [map_cons]
    rw [ih]
   ·have e1 : cm size (d0 + col) d = none := by unfold cm; rw [if_neg h1, if_neg h2]
    have e2 : E5 size col (d - d0) = none := by unfold E5; rw [if_neg (by omega), if_neg (by omega)]
    rw [e1]
    dsimp only
    rw [ih]
    split
    ·rw [filterMap_cons, e2]
    ·rfl
theorem Ik {size : Nat} : ∀ l : List Nat, (∀ x ∈ l, x = 0) → (l.filterMap (E5 size 0)).length = l.length
 | [], _ => rfl
 | a :: l, h => by
  have ih := Ik (size := size) l fun x hx => h x (.tail _ hx)
  have := h a (.head _)
  subst this
  rw [filterMap_cons, show E5 size 0 0 = some true from rfl]
  simp only [length_cons]; rw [ih]
theorem H3 (hs : 1 ≤ size ∧ size ≤ 3) (hB : ∀ m ∈ Am size ds, m.1 < B) (hp : FS size d0 ds) : pre (d0 + 1) (Af B size ds) = HI size d0 ds := by
 have h := (IL d0 (Dq (B := B) (size := size) (ds := ds))).2
 rw [Gg hs hB] at h
 have e : pre d0 (Af B size ds) = [] := by
  cases q : pre d0 (Af B size ds) with
  | nil => rfl
  | cons m r =>
   have h1 := HQ (c := d0) (ms := Af B size ds) (m := m) (by rw [q]; exact .head _)
   have hmem : m ∈ Af B size ds := by rw [← B3 d0 (Af B size ds), q]; simp
   obtain ⟨d, hd, h2, _⟩ := Go (BW hmem)
   have := hp.low d hd
   omega
 rw [h, e]; rfl
theorem FW (hs : 1 ≤ size ∧ size ≤ 3) (hB : ∀ m ∈ Am size ds, m.1 < B) (hp : FS size d0 ds) : ∀ k, (List.range k).foldl (fun st j => BD ((Af B size ds).map (·.2)) size st (j + 1)) ((pre (d0 + 1) (Af B size ds)).length, replicate (pre (d0 + 1) (Af B size ds)).length 0)
  = ((pre (d0 + k + 1) (Af B size ds)).length, (ds.map (· - d0)).filter fun x => decide (x ≤ k))
 | 0 => by
  refine Prod.ext rfl ?_
  show replicate _ 0 = _
  symm
  rw [List.eq_replicate_iff]
  have hz : ∀ b ∈ (ds.map (· - d0)).filter fun x => decide (x ≤ 0), b = 0 := fun b hb => by
   have := (List.mem_filter.mp hb).2
   simpa using this
  refine ⟨?_, hz⟩
  rw [H3 hs hB hp]
  have h1 := JO (size := size) 0 hp.low
  rw [Nat.add_zero] at h1
  have h2 := congrArg List.length h1
  rw [length_map, Ik _ hz] at h2
  exact h2.symm
 | k + 1 => by
  rw [range_succ, foldl_append, FW hs hB hp k, foldl_cons, foldl_nil]
  unfold BD
  show (((ds.map (· - d0)).filter fun x => decide (x ≤ k)).foldl (AD ((Af B size ds).map (·.2)) size (k + 1)) ((pre (d0 + k + 1) (Af B size ds)).length, [])) = _
  have hst := IL (d0 + (k + 1)) (Dq (B := B) (size := size) (ds := ds))
  rw [Gg hs hB] at hst
  have hrel := JO (size := size) (k + 1) hp.low
  have hf : ((ds.map (· - d0)).filter fun x => decide (x ≤ k)) = ((ds.map (· - d0)).filter fun x => decide (x ≤ k + 1)).filter fun x => decide (x < k + 1) := by
   rw [List.filter_filter]
   refine List.filter_congr fun x _ => ?_
   rw [Bool.eq_iff_iff]; simp; omega
  have hR : ((pst (d0 + (k + 1) + 1) (Af B size ds)).map (·.2)).head? ≠ some true := by
   cases q : pst (d0 + (k + 1) + 1) (Af B size ds) with
   | nil => simp
   | cons m r =>
    have := GA hs hB hp (by exact Aa 0x1204890200040420 rt) q
    simp [this]
  have hhead : ∃ tl, (ds.map (· - d0)).filter (fun x => decide (x ≤ k + 1)) = 0 :: tl := by
   have := hp.hd
   cases hds : ds with
   | nil => rw [hds] at this; cases this
   | cons d tl =>
    rw [hds] at this
    cases this
    rw [map_cons, Nat.sub_self, List.filter_cons_of_pos (by simp)]
    exact ⟨_, rfl⟩
  have hch : Ch size (k + 1) ((ds.map (· - d0)).filter fun x => decide (x ≤ k + 1)) := Hj _ fun i a b h1 h2 => by
   rw [getElem?_map] at h1 h2
   obtain ⟨a', h3, rfl⟩ := Option.map_eq_some_iff.mp h1
   obtain ⟨b', h4, rfl⟩ := Option.map_eq_some_iff.mp h2
   have := hp.step i a' b' h3 h4
   have := hp.low a' (mem_of_getElem? h3)
   omega
  have hle : ∀ x ∈ (ds.map (· - d0)).filter fun x => decide (x ≤ k + 1), x ≤ k + 1 := fun x hx => by simpa using (List.mem_filter.mp hx).2
  have hdrop : ((Af B size ds).map (·.2)).drop (pre (d0 + k + 1) (Af B size ds)).length = ((ds.map (· - d0)).filter fun x => decide (x ≤ k + 1)).filterMap (E5 size (k + 1)) ++ (pst (d0 + (k + 1) + 1) (Af B size ds)).map (·.2) := by
   rw [← hrel, ← map_append, ← hst.1, ← map_drop]
   congr 1
   have := B3 (d0 + k + 1) (Af B size ds)
   conv => lhs; arg 2; rw [← this]
   rw [drop_left' rfl]; rfl
  have hlen : (pre (d0 + (k + 1) + 1) (Af B size ds)).length = (pre (d0 + k + 1) (Af B size ds)).length + (((ds.map (· - d0)).filter fun x => decide (x ≤ k + 1)).filterMap (E5 size (k + 1))).length := by
   rw [hst.2, length_append, ← hrel, length_map]; rfl
  rw [hf, hlen]
  generalize (ds.map (· - d0)).filter (fun x => decide (x ≤ k + 1)) = fs at hhead hch hle hdrop ⊢
  obtain ⟨tl, rfl⟩ := hhead
  have htw : (0 :: tl).takeWhile (· == k + 1) = [] := by rw [List.takeWhile_cons_of_neg (by simp)]
  have hdw : (0 :: tl).dropWhile (· == k + 1) = 0 :: tl := by rw [List.dropWhile_cons_of_neg (by simp)]
  have h := E9 (signs := (Af B size ds).map (·.2)) hR (0 :: tl) (pre (d0 + k + 1) (Af B size ds)).length [] hch hle (by rw [hdw]; exact hdrop)
  rw [htw, hdw] at h
  exact h
theorem IC (hs : 1 ≤ size ∧ size ≤ 3) (hB : ∀ m ∈ Am size ds, m.1 < B) : Bp true (Af B size ds) = ds.length := by
 have h : (Bp true (Af B size ds) : Int) = zs (fun _ => 1) ds := by
  rw [LU, Af, E4 _ _ _ _ hB, Am, D7]
  refine Aw fun d _ => ?_
  rcases sz3 hs with rfl | rfl | rfl <;> simp [HS, GY, GJ, zs]
 rw [GT] at h
 exact GH 0x940923099032c021 rt h
theorem KG (ms : List (Nat × Bool)) : (ms.map (·.2)).count true = Bp true ms := by
 induction ms with
 | nil => rfl
 | cons m ms ih =>
  rw [map_cons, count_cons, ih, C9]
  cases m.2 <;> simp <;> exact IW 9046782889691168 rt
theorem Mv (hs : 1 ≤ size ∧ size ≤ 3) (hB : ∀ m ∈ Am size ds, m.1 < B) (hp : FS size d0 ds) : (Fk ((Af B size ds).map (·.2)) size (pre (d0 + 1) (Af B size ds)).length).map (fun n : Nat => (n : Int)) = ds.map fun d : Nat => (d : Int) - d0 := by
 unfold Fk
 rw [FW hs hB hp, KG, IC hs hB]
 show ((ds.map (· - d0)).filter fun x => decide (x ≤ size * ds.length)).map _ = _
 rw [Cj fun x hx => ?_, map_map]
 ·refine map_congr_left fun d hd => ?_
  have := hp.low d hd
  show ((d - d0 : Nat) : Int) = _
  exact Ez 0x48d430a0655250014021 rt (sub_add_cancel (Aa 0x94012800421 rt this))
 ·obtain ⟨d, hd, rfl⟩ := List.mem_map.mp hx
  have := IH hp hd
  rw [Nat.mul_comm] at this
  simp; exact B7 0x52c0902d40424000a02400422 rt hs.1 this
theorem KC (hs : 1 ≤ size ∧ size ≤ 3) (hB : ∀ m ∈ Am size ds, m.1 < B) (hp : FS size d0 ds) (hl : ds.length ≤ 1000) (k : Nat) : ((List.range k).foldl (fun st j => BD ((Af B size ds).map (·.2)) size st (j + 1)) ((pre (d0 + 1) (Af B size ds)).length, replicate (pre (d0 + 1) (Af B size ds)).length 0)).2.length ≤ 1000 := by
 rw [FW hs hB hp]
 refine le_trans (length_filter_le _ _) ?_
 rw [length_map]; exact hl
theorem Jf (hs : 1 ≤ size ∧ size ≤ 3) (hB : ∀ m ∈ Am size ds, m.1 < B) (hp : FS size d0 ds) : ((Af B size ds).map (·.2))[(pre (d0 + 1) (Af B size ds)).length]? = some false ∧ ∀ j < (pre (d0 + 1) (Af B size ds)).length, ((Af B size ds).map (·.2))[j]? ≠ some false := by
 have hmem : d0 ∈ ds := List.mem_of_head? hp.hd
 constructor
 ·have hlt := Fl hB hmem hs (c := d0 + 1) (by exact Aa 0x2120091200202400421 rt hs.1)
  have hat := Hg hs hB hp (c := d0 + 1) (by exact Aq 38923404320 rt) hlt
  obtain ⟨m, h1, h2⟩ := EM (mem_of_getElem? hat)
  rw [Nat.sub_zero] at h1
  rw [getElem?_map, h1, map_some, h2]
 ·intro j hj h
  rw [getElem?_map] at h
  obtain ⟨m, h1, h2⟩ := Option.map_eq_some_iff.mp h
  have e := B3 (d0 + 1) (Af B size ds)
  rw [← e, getElem?_append_left hj, H3 hs hB hp] at h1
  have hm := mem_of_getElem? h1
  unfold HI at hm
  obtain ⟨d, hd, hc⟩ := List.mem_filterMap.mp hm
  have := hp.low d hd
  unfold cm at hc
  split at hc
  ·cases hc; cases h2
  ·rw [if_neg (by (exact fun ha => Aa 8172705673118722 rt this ha.1))] at hc; cases hc
def Jo (size c s : Nat) : Nat := if s = 32 then c + 1 else (c / size + 1) * size
theorem Nj (h : 1 ≤ size) (c s : Nat) : c ≤ Jo size c s ∧ Jo size c s ≤ c + size := by
 unfold Jo
 split
 ·exact ⟨Aq 38923403296 rt, Aa 0x2120091200202400421 rt h⟩
 ·have h1 := Nat.div_add_mod c size
  have h2 := mod_lt c (show 0 < size by exact Aq 9011640288674849 rt h)
  rw [Nat.add_mul, Nat.one_mul, Nat.mul_comm (c / size) size]
  exact ⟨B7 0xb401405a4215250014022 rt h1 h2, B7 0x2d405a0005250010421 rt h1⟩
theorem Gh (h : 1 ≤ size) : ∀ (l : List Nat) (c : Nat), c ≤ l.foldl (Jo size) c ∧ l.foldl (Jo size) c ≤ c + l.length * size
 | [], c => by simp
 | s :: l, c => by
  obtain ⟨h1, h2⟩ := Nj h c s
  obtain ⟨h3, h4⟩ := Gh h l (Jo size c s)
  rw [foldl_cons, length_cons, succ_mul]
  exact ⟨AB 0xa401490052800422 rt h1 h3, FE 0xa601205818802c015240800422 rt h2 h4⟩
theorem HH (x : List Nat) (size : Nat) : Ej x size = x.foldl (Jo size) 0 := rfl
theorem HJ (h : 1 ≤ size) (a b : List Nat) : Ej a size ≤ Ej (a ++ b) size ∧ Ej (a ++ b) size ≤ Ej a size + b.length * size := by
 rw [HH, HH, foldl_append]
 exact Gh h b _
structure El (x0 : List Nat) (ls : List (List Nat)) : Prop where
 ne : ls ≠ []
 pre : ∀ x ∈ ls, ∃ t, x = x0 ++ t
 st : ∀ (i : Nat) (a b : List Nat), ls[i]? = some a → ls[i + 1]? = some b → ∃ (k : Nat) (e : List Nat), b = a.take k ++ e ∧ e.length ≤ 1
theorem El.step (h : El x0 ls) (v : Nat) : El x0 (Bq x0.length ls v) := by
 obtain ⟨t, ht⟩ := h.pre _ (Fd h.ne)
 have he := (HK v).1
 have hlp : 0 < ls.length := List.length_pos_iff.mpr h.ne
 unfold Bq
 generalize ED.getD (v / 60 % 3) [] = e at he ⊢
 have hkeep : x0.length ≤ EE x0.length (B6 ls) v := by
  unfold EE
  have hlen : (B6 ls).length = x0.length + t.length := by rw [ht, length_append]
  have := mod_lt v (show 0 < (B6 ls).length - x0.length + 1 by exact Aq 1245540647968 rt)
  exact FE 0x5b00a624020a160500212240808423 rt this Qd (sub_add_cancel (AB 9324211873071137 rt hlen))
 generalize EE x0.length (B6 ls) v = k at hkeep ⊢
 refine ⟨by simp, fun x hx => ?_, fun i a b ha hb => ?_⟩
 ·rcases List.mem_append.mp hx with q | q
  ·exact h.pre x q
  ·rw [List.mem_singleton.mp q, ht, List.take_append, take_of_length_le hkeep, append_assoc]
   exact ⟨_, rfl⟩
 ·rcases lt_or_ge (i + 1) ls.length with q | q
  ·rw [getElem?_append_left (by exact Aa 0x4a0290910008421 rt q)] at ha
   rw [getElem?_append_left q] at hb
   exact h.st i a b ha hb
  ·have hi : i + 1 = ls.length := by
    have := (List.getElem?_eq_some_iff.mp hb).1
    rw [length_append, List.length_singleton] at this
    exact le_antisymm (Aa 0x12122000091200910008421 rt this) (Aa 0x489020012240800421 rt q)
   rw [getElem?_append_left (by exact Aa 0x4a0290910010421 rt hi)] at ha
   rw [hi, getElem?_append_right (le_refl _), Nat.sub_self, List.getElem?_cons_zero] at hb
   have hl : B6 ls = a := by
    unfold B6
    rw [List.getLastD_eq_getLast?, List.getLast?_eq_getElem?, show ls.length - 1 = i by exact Ez 0x21424848a00a090910010422 rt hi (sub_add_cancel (Aq 9046790267503649 rt hlp)), ha]; rfl
   cases hb
   exact ⟨k, e, by rw [hl], he⟩
theorem El.zero (x0 : List Nat) : El x0 [x0] := ⟨by simp, fun x hx => ⟨[], by rw [List.mem_singleton.mp hx]; simp⟩, fun i a b _ hb => by
 rw [List.getElem?_cons_succ] at hb; simp at hb⟩
theorem El.fold : ∀ (vs : List Nat) {ls : List (List Nat)}, El x0 ls → El x0 (vs.foldl (Bq x0.length) ls)
 | [], _, h => h
 | v :: vs, _, h => El.fold vs (h.step v)
theorem Jz (hs : 1 ≤ size) (d : Nat) (vs : List Nat) : FS size (Ej (BN d) size) (CA size (Ba d vs)) := by
 have hp : El (BN d) (Ba d vs) := .fold vs (.zero _)
 have ho := DX d vs
 generalize Ba d vs = ls at hp ho ⊢
 unfold CA
 refine ⟨by rw [List.head?_map, ho.hd]; rfl, fun y hy => ?_, fun i a b ha hb => ?_⟩
 ·obtain ⟨x, hx, rfl⟩ := List.mem_map.mp hy
  obtain ⟨t, rfl⟩ := hp.pre x hx
  exact (HJ hs _ _).1
 ·rw [getElem?_map] at ha hb
  obtain ⟨x, hx, rfl⟩ := Option.map_eq_some_iff.mp ha
  obtain ⟨y, hy, rfl⟩ := Option.map_eq_some_iff.mp hb
  obtain ⟨k, e, rfl, he⟩ := hp.st i x y hx hy
  have h1 := (HJ hs (x.take k) e).2
  have h2 := (HJ hs (x.take k) (x.drop k)).1
  rw [take_append_drop] at h2
  have h3 : e.length * size ≤ 1 * size := mul_le_mul_right _ he
  exact FE 0x316040181328015a4015240800423 rt h1 h2 h3
theorem KJ (hs : 1 ≤ size ∧ size ≤ 3) (d : Nat) (vs : List Nat) (hv : vs.length ≤ 5) : (∀ m ∈ Am size (CA size (Ba d vs)), m.1 < 60) ∧ ∀ x ∈ CA size (Ba d vs), x ≤ 33 := by
 have ho := DX d vs
 have hl := Ex d vs
 have hd : ∀ x ∈ CA size (Ba d vs), x ≤ 33 := fun y hy => by
  unfold CA at hy
  obtain ⟨x, hx, rfl⟩ := List.mem_map.mp hy
  obtain ⟨_, h2, _⟩ := ho.ok x hx
  have h3 := (Gh hs.1 x 0).2
  have h4 : x.length * size ≤ 11 * 3 := mul_le_mul (by exact AB 0xb228092900a00424401220948800423 rt hv hl h2) hs.2
  rw [HH]; exact Aa 0x211150019166480290100800422 rt h3 h4
 refine ⟨fun m hm => ?_, hd⟩
 obtain ⟨x, hx, _, h2, _⟩ := Go hm
 have := hd x hx
 exact AB 0x3c1152108445500285012008c8800423 rt hs.2 h2 this
theorem KY (dp : List Int) (h : dp.length ≤ 6) : (Ey dp).length ≤ 36 := by
 have : ∀ n, n ≤ 6 → ((List.range n).flatMap fun j => (List.range j).map fun i => (dp.getD i 0, dp.getD j 0)).length ≤ n * 6 := fun n => by
  induction n with
  | zero => intro _; simp
  | succ n ih =>
   intro hn
   have := ih (by exact Aq 0xc4400c40910000421 rt hn)
   rw [range_succ, flatMap_append, length_append, List.flatMap_singleton, length_map, length_range]; exact Aa 0x24400c742400418e9004c40910000422 rt hn this
 have := this dp.length h
 unfold Ey
 exact Aa 0x4822a40831d200988801822 rt h this
theorem MF (h : ∀ x ∈ dp, -100 ≤ x ∧ x ≤ 100) : ∀ x ∈ Ey dp, -100 ≤ x.1 ∧ x.1 ≤ 100 ∧ -100 ≤ x.2 ∧ x.2 ≤ 100 := by
 have hg : ∀ i, -100 ≤ dp.getD i 0 ∧ dp.getD i 0 ≤ 100 := fun i => by
  rw [getD_eq_getElem?_getD]
  cases q : dp[i]? with
  | none => simp
  | some x => exact h x (mem_of_getElem? q)
 intro x hx
 unfold Ey at hx
 obtain ⟨j, _, hj⟩ := List.mem_flatMap.mp hx
 obtain ⟨i, _, rfl⟩ := List.mem_map.mp hj
 have h1 := hg i
 have h2 := hg j
 exact ⟨h1.1, h1.2, h2.1, h2.2⟩
theorem I6 : ∀ {ds : List Nat}, ds ≠ [] → ∃ m ∈ ds, ∀ d ∈ ds, d ≤ m
 | [], h => absurd rfl h
 | [a], _ => ⟨a, .head _, fun d hd => by rw [List.mem_singleton.mp hd]; exact le_refl _⟩
 | a :: b :: l, _ => by
  obtain ⟨m, hm, h⟩ := I6 (ds := b :: l) (by simp)
  rcases lt_or_ge m a with q | q
  ·exact ⟨a, .head _, fun d hd => by
    rcases List.mem_cons.mp hd with rfl | hd
    ·exact le_refl _
    ·have := h d hd; exact AB 0x95010a0052808422 rt q this⟩
  ·exact ⟨m, .tail _ hm, fun d hd => by
    rcases List.mem_cons.mp hd with rfl | hd
    ·exact q
    ·exact h d hd⟩
theorem Ir (hs : 1 ≤ size ∧ size ≤ 3) (hB : ∀ m ∈ Am size ds, m.1 < B) : (A7 false 0 (Af B size ds)).length = size * (A7 true 0 (Af B size ds)).length := by
 have h := IP hs hB size
 rw [OP] at h
 have e : ((size : Int) - size) * ds.length = 0 := by simp
 rw [e] at h
 have e2 : ((size * Bp true (Af B size ds) : Nat) : Int) = (size : Int) * Bp true (Af B size ds) := by simp
 have e3 : Bp false (Af B size ds) = size * Bp true (Af B size ds) := by exact q21 0x128151232840440e8128422 rt h e2
 exact e3
theorem Ly (hs : 1 ≤ size ∧ size ≤ 3) (hB : ∀ m ∈ Am size ds, m.1 < B) : ∀ k one, (A7 true 0 (Af B size ds))[k]? = some one → Bp false ((Af B size ds).take one) ≤ size * k ∧ ∀ i p, (A7 false 0 (Af B size ds))[i]? = some p → (p ≤ one ↔ i < Bp false ((Af B size ds).take one)) := by
 intro k one h
 have hk := IK h
 have hn := BB hs hB one
 rw [OP, ← hk] at hn
 have e2 : ((size * k : Nat) : Int) = (size : Int) * k := by simp
 refine ⟨l21 0x128051232c103a040418422 rt hn e2, fun i p hp => ?_⟩
 rw [FL hp]
 have hne : p ≠ one := fun e => by
  subst e
  obtain ⟨m1, h1, h2⟩ := EM (mem_of_getElem? h)
  obtain ⟨m2, h3, h4⟩ := EM (mem_of_getElem? hp)
  rw [h1] at h3
  cases h3
  rw [h2] at h4; cases h4
 omega
theorem Jc (hs : 1 ≤ size ∧ size ≤ 3) (hB : ∀ m ∈ Am size ds, m.1 < B) (d0 : Int) :
  (((A7 true 0 (Af B size ds)).map fun p => Bp false ((Af B size ds).take p)).zipIdx.map fun x : Nat × Nat => (size : Int) * x.2 - x.1).sum = ((Ey (ds.map fun d : Nat => (d : Int) - d0)).map fun x => By size x.1 x.2).sum := by
 rw [K0, K0]
 exact (LB hs hB d0).trans (KZ (By size) _).symm
theorem Ov (b : Bool) (l : List (Nat × Bool)) (p : Nat) : Bp b (l.take p) ≤ l.length := by
 have h := Di (l.take p)
 have h2 : (l.take p).length ≤ l.length := by rw [length_take]; exact Aa 0x94012800421 rt (min_le_right _ _)
 cases b <;> (first | exact B7 0x2d005a8015250010422 rt h h2 | exact B7 0x2d205a8015250010422 rt h h2)
theorem NM (l : List Int) : (l.map fun y => (y % 5040).toNat).sum ≤ l.length * 5039 := by
 induction l with
 | nil => simp
 | cons y l ih =>
  rw [map_cons, sum_cons, length_cons, succ_mul]
  exact Nat.add_comm _ _ ▸ Nat.add_le_add ih (Int.toNat_le.mpr (Int.le_of_lt_add_one (Int.emod_lt_of_pos y (by decide))))
noncomputable section
noncomputable abbrev prg : Program := Challenge.rw_rs0213_01.row.prog
def qB : Program := { prg with main := { prg.main with body := [0, 7, 8, 9, 10, 12, 14, 15, 16, 17, 18].filterMap fun i => prg.main.body[i]? } }
noncomputable def J0 : List Str := [ofString "insort_right", ofString "bisect_right", ofString "insort_left", ofString "bisect_left", ofString "Whitespace"]
noncomputable def noS : Stmt := .Pass ⟨0, 0, 0, 0⟩
noncomputable def ts (i : Nat) : Stmt := prg.main.body.getD i noS
noncomputable def clB : Stmt → List Stmt
 | .ClassDef _ _ _ b _ _ _ _ _ _ _ => b
 | _ => []
noncomputable def cs (j : Nat) : Stmt := (clB (ts 12)).getD j noS
noncomputable def fA : Stmt → Arguments
 | .FunctionDef _ a _ _ _ _ _ _ _ _ => a
 | _ => ⟨[], [], none, [], [], none, []⟩
noncomputable def fB : Stmt → List Stmt
 | .FunctionDef _ _ b _ _ _ _ _ _ _ => b
 | _ => []
noncomputable def fS : Stmt → Scope
 | .FunctionDef _ _ _ _ _ _ s _ _ _ => s
 | _ => ⟨.function, [], false, false, []⟩
noncomputable abbrev o (s : String) : Str := ofString s
noncomputable abbrev vs (s : String) (n : Nat) : Value := .str (o s) n
abbrev de (P : Params) (s : String) (n : Nat) (v : Value) : DictEntry := ⟨PyData.keyHash P (o s), vs s n, v⟩
abbrev ob0 (d : Data) (sl : Array (Option Value)) : Obj := ⟨.none, none, d, sl⟩
abbrev nk (s : String) (k : NameKind) : Str × NameKind := (o s, k)
abbrev nL (s : String) := nk s .local
abbrev nG (s : String) := nk s .globalImplicit
abbrev nC (s : String) := nk s .cell
abbrev tU (v : Array Value) : Obj := .mk (.type "tuple") none (.seq v) #[]
noncomputable abbrev kD (P : Params) (n : Nat) : Obj := .mk (.type "dict") none (.dict #[de P "key" n .none] 1) #[]
noncomputable abbrev cO (n q : String) (k : Nat) (l a b f : Int) (r : Nat) (x y : Value) (s m : Nat) : Obj := .mk (.type "code") none (.fields #[vs n k, vs q (k + 1), vs "/claim/cut.py" (k + 2), .int l 0, .int a 0, .int 0 0, .int b 0, .int f 0, .ref r, .bool true, .int 181 0, .ref (r + 1), .none, x, y, .ref (r + s), .int m 0, .int l 0, vs "/claim/cut.py" (m + 1)]) #[]
noncomputable abbrev fO (n q : String) (t : Stmt) (ns : List (Str × NameKind)) (f : Nat) (d k : Value) (md : String) (m c : Nat) : Obj := .mk (.type "function") none (.func (.mk (o n) (o q) (fA t) (.stmts (fB t)) { fS t with names := ns } f [] d k .none (vs md m) none (.ref c) .none 0)) #[]
noncomputable abbrev BA : List (Str × NameKind) := [nL "script", nC "nums", nL "drawn", nC "size", nL "leads", nL "value", nL "keep", nC "due", nL "told", nL "column", nL "flat", nL "mark", nL "thin", nL "half", nL "third", nC "marks", nL "again", nL "later", nL "menu", nC "hidden", nC "tail", nL "cut", nL "still_open", nL "texts", nL "none", nL "parts", nL "error", nL "opens", nL "closes", nC "places", nL "many", nC "both", nL "rises", nL "done", nL "up", nL "turn", nL "found", nC "deep", nL "ahead", nL "pairs", nL "area", nL "read", nL "seen", nG "enumerate", nG "len", nG "insort_right", nG "insort_left", nG "zip", nG "sum", nG "_law_text", nG "_pre_parse_validation", nG "tuple", nG "list", nG "ValueError", nG "str", nG "range", nG "bisect_left", nG "max", nG "_strip_quoted_realnames", nG "_iter_escaped_chars", nG "_law_units", nG "_law_back"]
def Mk (P : Params) : Frag := [(2, ob0 (.dict #[]) #[]),
 (3, Obj.mk (.type "dict") none (.dict #[de P "__name__" 165 (vs "law_rs0213_01" 391), de P "__doc__" 166 .none, de P "__package__" 167 .none, de P "__loader__" 168 (.builtin "__main__.__loader__#opaque"), de P "__spec__" 169 .none, de P "__annotations__" 170 (.ref 6), de P "__builtins__" 171 (.ref 4), de P "__file__" 173 (vs "/claim/cut.py" 172), de P "__cached__" 174 .none, de P "_wall" 193 (.ref 21), de P "insort_right" 208 (.ref 30), de P "bisect_right" 222 (.ref 39), de P "insort_left" 235 (.ref 48), de P "bisect_left" 249 (.ref 57), de P "_iter_escaped_chars" 261 (.ref 64), de P "_strip_quoted_realnames" 273 (.ref 71), de P "_check_parenthesis" 283 (.ref 78), de P "_pre_parse_validation" 292 (.ref 85), de P "Whitespace" 390 (.ref 147), de P "_law_column" 402 (.ref 158), de P "_law_text" 408 (.ref 163), de P "_law_units" 414 (.ref 168), de P "_law_back" 427 (.ref 175), de P "law" 433 (.ref 180)] 24) #[]),
 (15, tU #[]),
 (17, tU #[vs "k" 190]),
 (18, tU #[]),
 (20, cO "_wall" "_wall" 187 1 1 0 3 15 (.ref 17) (.ref 18) 4 191),
 (21, fO "_wall" "_wall" (ts 0) [nL "k"] 3 .none .none "__main__" 164 20),
 (22, tU #[.int 0 196, .none]),
 (23, kD P 197),
 (24, tU #[]),
 (26, tU #[vs "a" 201, vs "x" 202, vs "lo" 203, vs "hi" 204, vs "key" 205]),
 (27, tU #[]),
 (29, cO "insort_right" "insort_right" 198 5 4 1 3 24 (.ref 26) (.ref 27) 4 206),
 (30, fO "insort_right" "insort_right" (ts 2) [nL "a", nL "x", nL "lo", nL "hi", nL "key", nG "bisect_right"] 3 (.ref 22) (.ref 23) "cpy313.bisect" 194 29),
 (31, tU #[.int 0 209, .none]),
 (32, kD P 210),
 (33, tU #[]),
 (35, tU #[vs "a" 214, vs "x" 215, vs "lo" 216, vs "hi" 217, vs "key" 218, vs "mid" 219]),
 (36, tU #[]),
 (38, cO "bisect_right" "bisect_right" 211 11 4 1 3 33 (.ref 35) (.ref 36) 4 220),
 (39, fO "bisect_right" "bisect_right" (ts 3) [nL "a", nL "x", nL "lo", nL "hi", nL "key", nL "mid", nG "ValueError", nG "len"] 3 (.ref 31) (.ref 32) "cpy313.bisect" 194 38),
 (40, tU #[.int 0 223, .none]),
 (41, kD P 224),
 (42, tU #[]),
 (44, tU #[vs "a" 228, vs "x" 229, vs "lo" 230, vs "hi" 231, vs "key" 232]),
 (45, tU #[]),
 (47, cO "insort_left" "insort_left" 225 31 4 1 3 42 (.ref 44) (.ref 45) 4 233),
 (48, fO "insort_left" "insort_left" (ts 4) [nL "a", nL "x", nL "lo", nL "hi", nL "key", nG "bisect_left"] 3 (.ref 40) (.ref 41) "cpy313.bisect" 194 47),
 (49, tU #[.int 0 236, .none]),
 (50, kD P 237),
 (51, tU #[]),
 (53, tU #[vs "a" 241, vs "x" 242, vs "lo" 243, vs "hi" 244, vs "key" 245, vs "mid" 246]),
 (54, tU #[]),
 (56, cO "bisect_left" "bisect_left" 238 37 4 1 3 51 (.ref 53) (.ref 54) 4 247),
 (57, fO "bisect_left" "bisect_left" (ts 5) [nL "a", nL "x", nL "lo", nL "hi", nL "key", nL "mid", nG "ValueError", nG "len"] 3 (.ref 49) (.ref 50) "cpy313.bisect" 194 56),
 (58, tU #[]),
 (60, tU #[vs "addr" 255, vs "pos" 256, vs "escape" 257, vs "ch" 258]),
 (61, tU #[]),
 (63, cO "_iter_escaped_chars" "_iter_escaped_chars" 252 58 1 0 35 58 (.ref 60) (.ref 61) 4 259),
 (64, fO "_iter_escaped_chars" "_iter_escaped_chars" (ts 7) [nL "addr", nL "pos", nL "escape", nL "ch", nG "enumerate"] 3 .none .none "cpy313.email.utils" 250 63),
 (65, tU #[]),
 (67, tU #[vs "addr" 265, vs "start" 266, vs "open_pos" 267, vs "result" 268, vs "pos" 269, vs "ch" 270]),
 (68, tU #[]),
 (70, cO "_strip_quoted_realnames" "_strip_quoted_realnames" 262 71 1 0 3 65 (.ref 67) (.ref 68) 4 271),
 (71, fO "_strip_quoted_realnames" "_strip_quoted_realnames" (ts 8) [nL "addr", nL "start", nL "open_pos", nL "result", nL "pos", nL "ch", nG "_iter_escaped_chars", nG "len"] 3 .none .none "cpy313.email.utils" 250 70),
 (72, tU #[]),
 (74, tU #[vs "addr" 277, vs "opens" 278, vs "pos" 279, vs "ch" 280]),
 (75, tU #[]),
 (77, cO "_check_parenthesis" "_check_parenthesis" 274 89 1 0 3 72 (.ref 74) (.ref 75) 4 281),
 (78, fO "_check_parenthesis" "_check_parenthesis" (ts 9) [nL "addr", nL "opens", nL "pos", nL "ch", nG "_strip_quoted_realnames", nG "_iter_escaped_chars"] 3 .none .none "cpy313.email.utils" 250 77),
 (79, tU #[]),
 (81, tU #[vs "email_header_fields" 287, vs "accepted_values" 288, vs "v" 289]),
 (82, tU #[]),
 (84, cO "_pre_parse_validation" "_pre_parse_validation" 284 100 1 0 3 79 (.ref 81) (.ref 82) 4 290),
 (85, fO "_pre_parse_validation" "_pre_parse_validation" (ts 10) [nL "email_header_fields", nL "accepted_values", nL "v", nG "_check_parenthesis"] 3 .none .none "cpy313.email.utils" 250 84),
 (96, tU #[]),
 (98, tU #[vs "self" 315, vs "ws" 316, vs "S" 317, vs "T" 318, vs "count" 319, vs "b" 320, vs "n" 321, vs "nt" 322, vs "ch" 323]),
 (99, tU #[]),
 (101, cO "__init__" "Whitespace.__init__" 312 111 2 0 3 96 (.ref 98) (.ref 99) 4 324),
 (102, fO "__init__" "Whitespace.__init__" (cs 1) [nL "self", nL "ws", nL "S", nL "T", nL "count", nL "b", nL "n", nL "nt", nL "ch", nG "Whitespace", nG "len", nG "tuple"] 3 .none .none "cpy313.tabnanny" 293 101),
 (103, tU #[]),
 (105, tU #[vs "self" 330]),
 (106, tU #[]),
 (108, cO "longest_run_of_spaces" "Whitespace.longest_run_of_spaces" 327 134 1 0 3 103 (.ref 105) (.ref 106) 4 331),
 (109, fO "longest_run_of_spaces" "Whitespace.longest_run_of_spaces" (cs 2) [nL "self", nG "_wall"] 3 .none .none "cpy313.tabnanny" 293 108),
 (110, tU #[]),
 (112, tU #[vs "self" 337, vs "tabsize" 338, vs "count" 339, vs "trailing" 340, vs "il" 341, vs "i" 342]),
 (113, tU #[]),
 (115, cO "indent_level" "Whitespace.indent_level" 334 137 2 0 3 110 (.ref 112) (.ref 113) 4 343),
 (116, fO "indent_level" "Whitespace.indent_level" (cs 3) [nL "self", nL "tabsize", nL "count", nL "trailing", nL "il", nL "i", nG "range", nG "len"] 3 .none .none "cpy313.tabnanny" 293 115),
 (117, tU #[]),
 (119, tU #[vs "self" 349, vs "other" 350]),
 (120, tU #[]),
 (122, cO "equal" "Whitespace.equal" 346 144 2 0 3 117 (.ref 119) (.ref 120) 4 351),
 (123, fO "equal" "Whitespace.equal" (cs 4) [nL "self", nL "other", nG "_wall"] 3 .none .none "cpy313.tabnanny" 293 122),
 (124, tU #[]),
 (126, tU #[vs "self" 357, vs "other" 358]),
 (127, tU #[]),
 (129, cO "not_equal_witness" "Whitespace.not_equal_witness" 354 147 2 0 3 124 (.ref 126) (.ref 127) 4 359),
 (130, fO "not_equal_witness" "Whitespace.not_equal_witness" (cs 5) [nL "self", nL "other", nG "_wall"] 3 .none .none "cpy313.tabnanny" 293 129),
 (131, tU #[]),
 (133, tU #[vs "self" 365, vs "other" 366]),
 (134, tU #[]),
 (136, cO "less" "Whitespace.less" 362 150 2 0 3 131 (.ref 133) (.ref 134) 4 367),
 (137, fO "less" "Whitespace.less" (cs 6) [nL "self", nL "other", nG "_wall"] 3 .none .none "cpy313.tabnanny" 293 136),
 (138, tU #[]),
 (140, tU #[vs "self" 373, vs "other" 374]),
 (141, tU #[]),
 (143, cO "not_less_witness" "Whitespace.not_less_witness" 370 153 2 0 3 138 (.ref 140) (.ref 141) 4 375),
 (144, fO "not_less_witness" "Whitespace.not_less_witness" (cs 7) [nL "self", nL "other", nG "_wall"] 3 .none .none "cpy313.tabnanny" 293 143),
 (145, tU #[vs "is_simple" 378, vs "n" 379, vs "norm" 380, vs "nt" 381, vs "raw" 382]),
 (146, Obj.mk (.type "dict") none (.dict #[de P "__module__" 302 (vs "cpy313.tabnanny" 293), de P "__firstlineno__" 306 (.int 108 305), de P "S" 310 (vs " " 308), de P "T" 311 (vs "\t" 309), de P "__init__" 326 (.ref 102), de P "longest_run_of_spaces" 333 (.ref 109), de P "indent_level" 345 (.ref 116), de P "equal" 353 (.ref 123), de P "not_equal_witness" 361 (.ref 130), de P "less" 369 (.ref 137), de P "not_less_witness" 377 (.ref 144), de P "__static_attributes__" 383 (.ref 145), de P "__dict__" 385 (.ref 148), de P "__weakref__" 387 (.ref 149), de P "__doc__" 388 .none] 4) #[]),
 (147, Obj.mk (.type "type") none (.cls (ClassData.mk (o "Whitespace") [.type "object"] [.ref 147, .type "object"] 146 (o "Whitespace") true [] [] false none false)) #[none, none, some (vs "Whitespace" 295), some (vs "Whitespace" 303), some (.builtin "object.__new__"), some (.bool true)]),
 (148, Obj.mk (.type "getset_descriptor") none (.fields #[vs "__dict__" 384, .ref 147, .builtin "function.__dict__", .builtin "function.__dict__#set"]) #[]),
 (149, Obj.mk (.type "getset_descriptor") none (.fields #[vs "__weakref__" 386, .ref 147, .builtin "ExceptionGroup.__weakref__", .none]) #[]),
 (152, tU #[]),
 (154, tU #[vs "lead" 396, vs "size" 397, vs "column" 398, vs "sign" 399]),
 (155, tU #[]),
 (157, cO "_law_column" "_law_column" 393 156 2 0 3 152 (.ref 154) (.ref 155) 4 400),
 (158, fO "_law_column" "_law_column" (ts 14) [nL "lead", nL "size", nL "column", nL "sign"] 3 .none .none "law_rs0213_01" 391 157),
 (159, tU #[]),
 (162, cO "_law_text" "_law_text" 403 161 4 0 3 159 .none .none 2 406),
 (163, fO "_law_text" "_law_text" (ts 15) [nL "marks", nC "slope", nC "hidden", nL "tail", nL "signs", nG "enumerate"] 3 .none .none "law_rs0213_01" 391 162),
 (164, tU #[]),
 (167, cO "_law_units" "_law_units" 409 164 3 0 3 164 .none .none 2 412),
 (168, fO "_law_units" "_law_units" (ts 16) [nL "marks", nL "hidden", nL "tail", nC "left", nC "units", nG "enumerate"] 3 .none .none "law_rs0213_01" 391 167),
 (169, tU #[]),
 (171, tU #[vs "signs" 418, vs "size" 419, vs "at" 420, vs "page" 421, vs "column" 422, vs "grown" 423, vs "depth" 424]),
 (172, tU #[]),
 (174, cO "_law_back" "_law_back" 415 169 2 0 3 169 (.ref 171) (.ref 172) 4 425),
 (175, fO "_law_back" "_law_back" (ts 17) [nL "signs", nL "size", nL "at", nL "page", nL "column", nL "grown", nL "depth", nG "range", nG "len"] 3 .none .none "law_rs0213_01" 391 174),
 (176, tU #[]),
 (179, cO "law" "law" 428 183 1 0 3 176 .none .none 2 431),
 (180, fO "law" "law" (ts 18) BA 3 .none .none "law_rs0213_01" 391 179)]
noncomputable def asB : List Nat := [2, 3, 15, 17, 18, 20, 21, 22, 23, 24, 26, 27, 29, 30, 31, 32, 33, 35, 36, 38, 39, 40, 41, 42, 44, 45, 47, 48, 49, 50, 51, 53, 54, 56, 57, 58, 60, 61, 63, 64, 65, 67, 68, 70, 71, 72, 74, 75, 77, 78, 79, 81, 82, 84, 85, 96, 98, 99, 101, 102, 103, 105, 106, 108, 109, 110, 112, 113, 115, 116, 117, 119, 120, 122, 123, 124, 126, 127, 129, 130, 131, 133, 134, 136, 137, 138, 140, 141, 143, 144, 145, 146, 147, 148, 149, 152, 154, 155, 157, 158, 159, 162, 163, 164, 167, 168, 169, 171, 172, 174, 175, 176, 179, 180]
end
theorem Om (P : Params) : asB = (Mk P).map (·.1) := by kernel_rfl
abbrev Ft : Hook := kmHook Mk asB Om [177]
abbrev Oc : Shared → Bool := fun s => xlAt qB [] s && recOk (RowW.records Challenge.rw_rs0213_01.row.toRowW) s
theorem PZ : LeftO prg qB J0 Oc (Hook.obs Ft) (Hook.val Ft) 2300 := LeftO.of_split "special-get-raises" (by intro w; kernel_rfl)
def dB : DefRec × List (Str × Expr) := (defOf qB Challenge.rw_rs0213_01.row.name).getD ⟨⟨o "", ⟨[], [], none, [], [], none, []⟩, [], ⟨.function, [], false, false, []⟩, ⟨0, 0, 0, 0⟩⟩, []⟩
theorem hdB (hc : WalkO qB J0 (XL qB []) (Hook.says Ft) Challenge.rw_rs0213_01.row.toRowW dB.1 dB.2 fun f vs => PySem.call f vs) : Challenge.rw_rs0213_01.Holds := by
 refine holds_law (by kernel_rfl) fun said => ?_
 refine holds_open (q := qB) (loose := J0) (Xt := Oc) (XP := XL qB []) (Yf := Hook.obs Ft) (Ya := Hook.val Ft) (YP := Hook.says Ft) (d := dB.1) (kwd := dB.2) (N := 2300) PZ (Hook.of Ft) (Hook.keeps Ft) (fun s e => xl_of s (Bool.and_eq_true_iff.mp e).1) XL.keeps (by kernel_rfl) (by kernel_rfl) (by kernel_rfl) (fun s e => recFacts_of (Bool.and_eq_true_iff.mp e).2) (by kernel_rfl) said (by decide +kernel) ⟨rfl, rfl, rfl, rfl, rfl, by decide +kernel⟩ ?hw hc
 case hw => w_witness2
abbrev KK : Params → Frag := Mk
abbrev aIR : Nat := 30
abbrev Pd : Nat := 29
def K8 (p : Params) : At (KK p) aIR := ⟨_, _, _, _, rfl⟩
abbrev aBR : Nat := 39
abbrev Pb : Nat := 38
def Nh (p : Params) : At (KK p) aBR := ⟨_, _, _, _, rfl⟩
abbrev aIL : Nat := 48
abbrev Pc : Nat := 47
def K7 (p : Params) : At (KK p) aIL := ⟨_, _, _, _, rfl⟩
abbrev aBL : Nat := 57
abbrev Pa : Nat := 56
def Ng (p : Params) : At (KK p) aBL := ⟨_, _, _, _, rfl⟩
abbrev aIt : Nat := 64
abbrev QU : Nat := 63
abbrev aSq : Nat := 71
abbrev QY : Nat := 70
abbrev aCp : Nat := 78
abbrev QR : Nat := 77
abbrev aPv : Nat := 85
abbrev QX : Nat := 84
abbrev aIn : Nat := 102
abbrev QT : Nat := 101
abbrev aLv : Nat := 116
abbrev QW : Nat := 115
abbrev aWs : Nat := 147
abbrev aCo : Nat := 158
abbrev QQ : Nat := 157
abbrev aTx : Nat := 163
abbrev QZ : Nat := 162
abbrev aUn : Nat := 168
abbrev Ra : Nat := 167
abbrev aBk : Nat := 175
abbrev QP : Nat := 174
abbrev K4 : Nat := 180
abbrev DE : Nat := 179
def Pf (p : Params) : At (KK p) K4 := ⟨_, _, _, _, rfl⟩
abbrev aTab : Nat := 177
noncomputable def GG : List (Str × Value) := [(ofString "enumerate", .type "enumerate"), (ofString "ValueError", .type "ValueError"), (ofString "range", .type "range"), (ofString "tuple", .type "tuple"), (ofString "list", .type "list"), (ofString "str", .type "str"), (ofString "zip", .type "zip"), (ofString "len", .builtin "len"), (ofString "max", .builtin "max"), (ofString "sum", .builtin "sum"), (ofString "sorted", .builtin "sorted"), (ofString "insort_right", .ref aIR), (ofString "bisect_right", .ref aBR), (ofString "insort_left", .ref aIL), (ofString "bisect_left", .ref aBL), (ofString "_iter_escaped_chars", .ref aIt), (ofString "_strip_quoted_realnames", .ref aSq), (ofString "_check_parenthesis", .ref aCp), (ofString "_pre_parse_validation", .ref aPv), (ofString "Whitespace", .ref aWs), (ofString "_law_column", .ref aCo), (ofString "_law_text", .ref aTx), (ofString "_law_units", .ref aUn), (ofString "_law_back", .ref aBk)]
section
local macro_rules | `(tactic| walk_at $s) => wGo s.getString
local macro_rules | `(tactic| left) => wGo "W"
local macro_rules | `(tactic| right) => wGo "n"
noncomputable abbrev gT : AU := some (.val (.type "enumerate")) :: some (.val (.builtin "len")) :: some (.val (.ref aIR)) :: some (.val (.ref aIL)) :: some (.val (.type "zip")) :: some (.val (.builtin "sum")) :: some (.val (.ref aTx)) :: some (.val (.ref aPv)) :: some (.val (.type "tuple")) :: some (.val (.type "list")) :: some (.val (.type "ValueError")) :: some (.val (.type "str")) :: some (.val (.type "range")) :: some (.val (.ref aBL)) :: some (.val (.builtin "max")) :: some (.val (.ref aSq)) :: some (.val (.ref aIt)) :: some (.val (.ref aUn)) :: some (.val (.ref aBk)) :: []
noncomputable abbrev O9 : Nm := [(ofString "addr", NameKind.local), (ofString "pos", .local), (ofString "escape", .local), (ofString "ch", .local), (ofString "enumerate", .globalImplicit)]
section
variable (KX : (KK X.w.params).In X.h₀)
include KX
theorem Gz {x : List Nat} {Q : List PV → (Ai → Prop) → Ai → Prop} (GI0 : AA X GG) (hH : A.handled = none) (hA : A.depth < recursionLimit) (hd : d.1 < recursionLimit)
  (hQ : Q ((esc 0 false x).map B0) (fun _ => True) L) : Ih X A d Ay (.val (.ref aIt)) [.str x] L Q := by
 refine' LO (bs := [(ofString "addr", .str x)]) (m₀ := [some (.str x), none, none, none, some (.val (.type "enumerate"))]) hH
  (KX aIt _ rfl) ?cr hA (Ak (by decide +kernel)) ?bd [ofString "addr"] rfl (by decide +kernel) ?bk ?ini (by decide +kernel) ?_ rfl rfl rfl rfl rfl rfl hQ
 case cr => exact ⟨_, _, _, _, rfl, KX QU _ rfl, rfl, rfl⟩
 case bk => exact List.forall_mem_cons.mpr ⟨by walk_at "m", forall_mem_nil _⟩
 case bd =>
  exact FY KX fun v1 S => by with_unfolding_all rfl
 case ini => walk_at "i"
 intro env ok hnc hsc a g
 dsimp only at ok hsc ⊢
 have hfr : ∀ p, some p ∈ [some (PV.str x), none, none, none, some (.val (.type "enumerate"))] → p.free = true := fun p hp => by
  simp at hp; rcases hp with rfl | rfl <;> rfl
 refine Mf hd hfr (by decide +kernel) hnc ?_
 intro s P F
 refine seg_func ?_
 refine seg_execs_cons (GL (wpAny_Assign_Name (wpAny_Constant_int ?_) rfl))
 refine (F.keeps (Az s _)).storeL (by walk_at "s") (AT _ _) fun s1 F1 e1 z1 => ?_
 refine seg_execs_cons (GL (wpAny_Assign_Name (wpAny_Constant_bool ?_) rfl))
 refine F1.storeL (by walk_at "s") (Bc _) fun s2 F2 e2 z2 => ?_
 refine seg_execs_cons (NH (fun x => rfl) ?_)
 refine Mc (F2.keeps (Ag s2)) (by walk_at "l") (by walk_at "l") Hx (fun v V => ?_) rfl rfl rfl rfl
 apply Bn V; intro hz t
 refine call_enumerate_str fun h' he hi hsz hk => ?_
 refine wpAny_pyIter_enum he fun p => ?_
 have z21 : s2.heap.objs.size = s.heap.objs.size := z2.trans z1
 have hlo : env.locals < s.heap.objs.size := by obtain ⟨mv, o, es, ep, ho, r⟩ := F.nsx; exact lt_size ho
 obtain ⟨n, hn⟩ : ∃ n, n = ((esc 0 false x).map B0).length := ⟨_, rfl⟩
 obtain ⟨i, ei⟩ : ∃ i : Nat, i = 0 := ⟨_, rfl⟩
 obtain ⟨k, ek⟩ : ∃ i : Nat, i = 0 := ⟨_, rfl⟩
 obtain ⟨b, eb⟩ : ∃ b : Bool, b = false := ⟨_, rfl⟩
 obtain ⟨q, eq⟩ : ∃ q : Option PV, q = none := ⟨_, rfl⟩
 obtain ⟨s3, e3⟩ : ∃ s3 : Shared, s3 = { s2 with heap := h' } := ⟨_, rfl⟩
 obtain ⟨outs, eo⟩ : ∃ outs : List PV, outs = (esc 0 false x).map B0 := ⟨_, rfl⟩
 obtain ⟨rest, er⟩ : ∃ rest : List Nat, rest = x.drop i := ⟨_, rfl⟩
 obtain ⟨it, eit⟩ : ∃ it : Nat, it = s.heap.objs.size := ⟨_, rfl⟩
 have hl : env.locals ≠ it ∧ env.locals ≠ it + 1 := by rw [eit]; exact ⟨ne_of_lt hlo, ne_of_lt (lt_succ_of_lt hlo)⟩
 have G : GI X env O9 it (it + 1) (Et x t it (it + 1) i) [some (.str x), some (.int ((i - 1 : Nat) : Int)), some (.bool b), q, some (.val (.type "enumerate"))] s s3 := by
  subst ei eb eq e3
  rw [z21, ← eit] at he hi
  have kk : Keeps s2 { s2 with heap := h' } := ⟨h', s2.toks, rfl, hk⟩
  obtain ⟨P3, kp3⟩ := F2.hp.grow (Z' := [it, it + 1]) kk fun b hb => by
   simp at hb; rcases hb with rfl | rfl
   ·exact ⟨by rw [z21, eit]; exact le_refl _, let ⟨o, e, _⟩ := hi; ⟨o, e⟩⟩
   ·exact ⟨by rw [z21, eit]; exact le_succ _, _, he⟩
  refine ⟨⟨[it, it + 1] ++ own X s, F2.grow (.keeps kk) (fun b hb => ?_) P3, fun a h => mem_append_right _ h, by simp, by simp⟩, ?_, ⟨⟨_, he⟩, hi⟩, Fs⟩
  ·simp at hb; rcases hb with rfl | rfl
   ·exact Ac _ (by rw [z21, eit]; exact le_refl _)
   ·exact Ac _ (by rw [z21, eit]; exact le_succ _)
  ·have n1 := (e1.nx0 hnc).sub (wr' := [env.locals, it, it + 1]) (gn' := []) (fun b hb => by simp at hb ⊢; exact .inl hb) fun b hb => hb
   have n2 := (e2.nx0 hnc).sub (wr' := [env.locals, it, it + 1]) (gn' := []) (fun b hb => by simp at hb ⊢; exact .inl hb) fun b hb => hb
   exact (n1.trans n2).trans ⟨fun b o _ q => hk b o q, fun g y _ q => q⟩
 have hb : b = true → 0 < i := fun h => by rw [eb] at h; cases h
 have ho : outs.drop k = (esc i b rest).map B0 := by rw [ek, eo, er, ei, eb]; rfl
 have hkn : k + n = outs.length := by rw [ek, hn, eo]; simp
 have hiz : i ≤ x.length := by rw [ei]; exact zero_le _
 rw [← e3, ← hn, ← eo, z21, ← eit]
 clear hn ei ek eb e3 eo eit F P F1 F2 e1 e2 z1 z2 z21 he hi hk hsz V hlo
 have hne : it + 1 ≠ it := Nat.succ_ne_self it
 have hnk : ∀ y ∈ O9, y.2 ≠ .free ∧ y.2 ≠ .cell := by decide +kernel
 have hco : env.scope.isCoroutine = false := by rw [hsc]; rfl
 have hin : interactive env = false := by unfold interactive; rw [ok.kind]; rfl
 have hmf : ∀ (i : Int) (b : Bool) (q : PV), q.free = true → ∀ p, some p ∈ [some (PV.str x), some (.int i), some (.bool b), some q, some (.val (.type "enumerate"))] → p.free = true := fun i b q hq p hp => by
  simp at hp; rcases hp with rfl | rfl | rfl | rfl | rfl <;> first | rfl | exact hq
 have hmf' : ∀ (i : Int) (b : Bool) (q : Option PV), (∀ q', q = some q' → q'.free = true) → ∀ p, some p ∈ [some (PV.str x), some (.int i), some (.bool b), q, some (.val (.type "enumerate"))] → p.free = true := fun i b q hq p hp => by
  simp at hp; rcases hp with rfl | rfl | rfl | rfl | rfl <;> first | rfl | exact hq _ rfl
 have hqf : ∀ q', q = some q' → q'.free = true := fun q' h => by rw [eq] at h; cases h
 clear eq
 induction rest generalizing i b k n q s s3 with
 | nil =>
  have hix : x.length ≤ i := List.drop_eq_nil_iff.mp er.symm
  refine Js rfl hl hnc hne G (le_antisymm hiz hix) fun s4 G4 => ?_
  refine GZ (K := fun _ => .pure (.done .next)) ?_
  refine seg_leaf _ ?_
  refine seg_execs_cons (Mh rfl hl hnc G4 ?_)
  refine JH rfl ?_
  walk_at "w"
  have fin : ∀ cc : Code, ∀ s0 s : Shared, ∀ m, GI X env O9 it (it + 1) (fun _ => True) m s0 s → Seg X.M (Lg (d.1, d.2 + 1)) (Mb X env.locals it (it + 1)) (FD X outs env.locals it (it + 1)) 0 s0 cc (leafOf (.ok (.ret .none))) [] s := fun cc s0 s m G => by
   obtain ⟨Zc, F, h0, h1, h2⟩ := G.ex
   exact seg_end _ ⟨rfl, rfl, Zc, h0, F.hp, G.nx⟩
  refine Ia (fun hb => ⟨rfl, fun s6 G6 => ?_⟩) (fun hb => ⟨rfl, fun s6 G6 => ?_⟩)
  ·subst hb
   have h1 : outs[k]? = some (B0 (i - 1, [92])) := by have := congrArg (·[0]?) ho; simpa [esc] using this
   have h2 : outs.length = k + 1 := by have := congrArg List.length ho; simp [esc] at this; exact Ez 0x4890284a4a0020848814022 rt this (sub_add_cancel (AB 0x29005250010421 rt hkn))
   obtain rfl : n = 0 + 1 := by exact Ez 0x240100910488028505250014022 rt hkn h2
   refine seg_execs_cons (Gq rfl hl hnc hnk (hmf' _ _ _ hqf) G6 rfl rfl rfl hco hin (k := k) (p := B0 (i - 1, [92])) (by exact GH 0x10120089000412240810421 rt h2) h1 ?_ fun s7 G7 => ?_)
   ·left
    exact ⟨by simp; decide, rfl, rfl⟩
   ·exact fin _ _ _ _ G7
  ·subst hb
   have h2 : outs.length = k := by have := congrArg List.length ho; simp [esc] at this; exact Ez 0x4a84a4a0020808814022 rt this (sub_add_cancel (AB 0x29005250010421 rt hkn))
   obtain rfl : n = 0 := by exact Ez 0x1122428505250014022 rt hkn h2
   exact fin _ _ _ _ G6
 | cons c rest ih =>
  have hix : x[i]? = some c := by
   have := congrArg (·[0]?) er
   simpa using this.symm
  have hilt : i < x.length := (List.getElem?_eq_some_iff.mp hix).1
  have er' : rest = x.drop (i + 1) := by rw [← tail_drop, ← er]; rfl
  refine O0 rfl hl hnc hne G hix trivial ?_
  refine AQ ?_ rfl rfl
  right
  right
  refine ⟨rfl, fun s5 G5 => ?_⟩
  refine seg_execs_cons (Mh rfl hl hnc G5 ?_)
  refine JH rfl ?_
  walk_at "w"
  refine Ia (fun hb => ⟨rfl, fun s6 G6 => ?_⟩) (fun hb => ⟨rfl, fun s6 G6 => ?_⟩)
  ·subst hb
   have h1 : outs[k]? = some (B0 (i, [92, c])) := by have := congrArg (·[0]?) ho; simpa [esc] using this
   have h2 : outs.drop (k + 1) = (esc (i + 1) false rest).map B0 := by rw [← tail_drop, ho]; simp [esc]
   obtain ⟨n, rfl⟩ : ∃ n', n = n' + 1 := by have := congrArg List.length ho; simp [esc] at this; exact ⟨_, (Nat.eq_sub_of_add_eq' hkn).trans this⟩
   refine seg_execs_cons (Gq rfl hl hnc hnk (hmf _ _ _ rfl) G6 rfl rfl rfl hco hin (k := k) (p := B0 (i, [92, c])) (by exact Ez 0x28244a000128244810014021 rt hkn) h1 ?_ fun s7 G7 => ?_)
   ·left
    refine FT (by simp; decide) ?_
    left
    exact ⟨by simp; decide, rfl, rfl⟩
   ·refine seg_execs_cons (NW rfl hl hnc G7 ?_)
    left
    refine ⟨rfl, fun s8 G8 => ?_⟩
    exact seg_again rfl (ih s7 n (i + 1) (k + 1) false _ s8 er' G8 (fun h => nomatch h) h2 (by exact Ez 0x292122000128244810014021 rt hkn) hilt (fun _ h => by cases h; rfl))
  ·subst hb
   refine seg_execs_cons (Mh rfl hl hnc G6 ?_)
   left
   ·refine fun hc => ⟨rfl, fun s7 G7 => ?_⟩
    obtain rfl : c = 92 := by have h : [c] = [92] := hc; simpa using h
    have h2 : outs.drop k = (esc (i + 1) true rest).map B0 := by rw [ho]; simp [esc]
    refine seg_execs_cons (NW rfl hl hnc G7 ?_)
    left
    refine ⟨rfl, fun s8 G8 => ?_⟩
    exact seg_again rfl (ih s n (i + 1) k true _ s8 er' G8 (fun _ => succ_pos _) h2 hkn hilt (fun _ h => by cases h; rfl))
   ·refine fun hc => ⟨rfl, fun s7 G7 => ?_⟩
    have hc' : c ≠ 92 := fun h => hc (by rw [h]; rfl)
    have h1 : outs[k]? = some (B0 (i, [c])) := by have := congrArg (·[0]?) ho; simpa [esc, hc'] using this
    have h2 : outs.drop (k + 1) = (esc (i + 1) false rest).map B0 := by rw [← tail_drop, ho]; simp [esc, hc']
    obtain ⟨n, rfl⟩ : ∃ n', n = n' + 1 := by have := congrArg List.length ho; simp [esc, hc'] at this; exact ⟨_, (Nat.eq_sub_of_add_eq' hkn).trans this⟩
    refine seg_execs_cons (Gq rfl hl hnc hnk (hmf _ _ _ rfl) G7 rfl rfl rfl hco hin (k := k) (p := B0 (i, [c])) (by exact Ez 0x28244a000128244810014021 rt hkn) h1 ?_ fun s8 G8 => ?_)
    ·left
     exact ⟨by simp; decide, rfl, rfl⟩
    ·exact seg_again rfl (ih s8 n (i + 1) (k + 1) false _ s8 er' G8 (fun h => nomatch h) h2 (by exact Ez 0x292122000128244810014021 rt hkn) hilt (fun _ h => by cases h; rfl))
theorem Hw {x : List Nat} {Q : List PV → (Ai → Prop) → Ai → Prop} (GI0 : AA X GG) (hH : A.handled = none) (hA : A.depth < recursionLimit)
  (hQ : Q ((esc 0 false x).map B0) (fun _ => True) L) : Fi X A Ay (.val (.ref aIt)) [.str x] L Q := (Gz KX GI0 hH hA hA hQ).toI
end
theorem BO.snoc {ds : List (Str × PV)} {n : Str} (x : BO D h ds dv) (V : Aj D h p v) : BO D h (ds ++ [(n, p)]) (dv ++ [(n, v)]) := by
 induction x with
 | nil => exact .cons V .nil
 | cons a _ ih => exact .cons a ih
theorem LH {ds : List (Str × PV)} (KX : K.In X.h₀) (hd : ∀ D h, BO D h ds dv) (e : ∀ v1 v2 S, peek K S (bindArgs fd ⟨[v1, v2], []⟩) = some ((n1, v1) :: (n2, v2) :: dv)) : AM X fd [p1, p2] [] ((n1, p1) :: (n2, p2) :: ds) := fun H Z L s vs kvs P V Kr => by
 cases Kr
 apply V.cons_el; intro v1 r V1 V
 apply V.cons_el; intro v2 r V2 V
 apply V.nil_el
 exact ⟨_, kp_binds (KX.keeps P.keep) (e v1 v2), .cons V1 (.cons V2 (hd _ _))⟩
theorem LI {nk : Str} {ds : List (Str × PV)} (KX : K.In X.h₀) (hd : ∀ D h, BO D h ds dv) (e : ∀ v1 v2 vk S, peek K S (bindArgs fd ⟨[v1, v2], [(kx, vk)]⟩) = some ((n1, v1) :: (n2, v2) :: (dv ++ [(nk, vk)]))) : AM X fd [p1, p2] [(kx, kv)] ((n1, p1) :: (n2, p2) :: (ds ++ [(nk, kv)])) := fun H Z L s vs kvs P V Kr => by
 cases Kr with
 | cons Vk Kr =>
 cases Kr
 apply V.cons_el; intro v1 r V1 V
 apply V.cons_el; intro v2 r V2 V
 apply V.nil_el
 exact ⟨_, kp_binds (KX.keeps P.keep) (e v1 v2 _), .cons V1 (.cons V2 ((hd _ _).snoc Vk))⟩
theorem On {ds : List (Str × PV)} (KX : K.In X.h₀) (hd : ∀ D h, BO D h ds dv) (e : ∀ v1 v2 v3 S, peek K S (bindArgs fd ⟨[v1, v2, v3], []⟩) = some ((n1, v1) :: (n2, v2) :: (n3, v3) :: dv)) : AM X fd [p1, p2, p3] [] ((n1, p1) :: (n2, p2) :: (n3, p3) :: ds) := fun H Z L s vs kvs P V Kr => by
 cases Kr
 apply V.cons_el; intro v1 r V1 V
 apply V.cons_el; intro v2 r V2 V
 apply V.cons_el; intro v3 r V3 V
 apply V.nil_el
 exact ⟨_, kp_binds (KX.keeps P.keep) (e v1 v2 v3), .cons V1 (.cons V2 (.cons V3 (hd _ _)))⟩
theorem LJ {nk : Str} {ds : List (Str × PV)} (KX : K.In X.h₀) (hd : ∀ D h, BO D h ds dv) (e : ∀ v1 v2 v3 vk S, peek K S (bindArgs fd ⟨[v1, v2, v3], [(kx, vk)]⟩) = some ((n1, v1) :: (n2, v2) :: (n3, v3) :: (dv ++ [(nk, vk)]))) : AM X fd [p1, p2, p3] [(kx, kv)] ((n1, p1) :: (n2, p2) :: (n3, p3) :: (ds ++ [(nk, kv)])) := fun H Z L s vs kvs P V Kr => by
 cases Kr with
 | cons Vk Kr =>
 cases Kr
 apply V.cons_el; intro v1 r V1 V
 apply V.cons_el; intro v2 r V2 V
 apply V.cons_el; intro v3 r V3 V
 apply V.nil_el
 exact ⟨_, kp_binds (KX.keeps P.keep) (e v1 v2 v3 _), .cons V1 (.cons V2 (.cons V3 ((hd _ _).snoc Vk)))⟩
theorem LK {ds : List (Str × PV)} (KX : K.In X.h₀) (hd : ∀ D h, BO D h ds dv) (e : ∀ v1 v2 v3 v4 S, peek K S (bindArgs fd ⟨[v1, v2, v3, v4], []⟩) = some ((n1, v1) :: (n2, v2) :: (n3, v3) :: (n4, v4) :: dv)) : AM X fd [p1, p2, p3, p4] [] ((n1, p1) :: (n2, p2) :: (n3, p3) :: (n4, p4) :: ds) := fun H Z L s vs kvs P V Kr => by
 cases Kr
 apply V.cons_el; intro v1 r V1 V
 apply V.cons_el; intro v2 r V2 V
 apply V.cons_el; intro v3 r V3 V
 apply V.cons_el; intro v4 r V4 V
 apply V.nil_el
 exact ⟨_, kp_binds (KX.keeps P.keep) (e v1 v2 v3 v4), .cons V1 (.cons V2 (.cons V3 (.cons V4 (hd _ _))))⟩
theorem Jg {nk : Str} {ds : List (Str × PV)} (KX : K.In X.h₀) (hd : ∀ D h, BO D h ds dv) (e : ∀ v1 v2 v3 v4 vk S, peek K S (bindArgs fd ⟨[v1, v2, v3, v4], [(kx, vk)]⟩) = some ((n1, v1) :: (n2, v2) :: (n3, v3) :: (n4, v4) :: (dv ++ [(nk, vk)]))) : AM X fd [p1, p2, p3, p4] [(kx, kv)] ((n1, p1) :: (n2, p2) :: (n3, p3) :: (n4, p4) :: (ds ++ [(nk, kv)])) := fun H Z L s vs kvs P V Kr => by
 cases Kr with
 | cons Vk Kr =>
 cases Kr
 apply V.cons_el; intro v1 r V1 V
 apply V.cons_el; intro v2 r V2 V
 apply V.cons_el; intro v3 r V3 V
 apply V.cons_el; intro v4 r V4 V
 apply V.nil_el
 exact ⟨_, kp_binds (KX.keeps P.keep) (e v1 v2 v3 v4 _), .cons V1 (.cons V2 (.cons V3 (.cons V4 ((hd _ _).snoc Vk))))⟩
section
variable (KX : (KK X.w.params).In X.h₀)
include KX
theorem NU : AM X (Nh X.w.params).fd [p1, p2, p3, p4] [] [(ofString "a", p1), (ofString "x", p2), (ofString "lo", p3), (ofString "hi", p4), (ofString "key", .none)] := LK (ds := [(ofString "key", .none)]) KX (fun D h => .cons AS .nil) fun v1 v2 v3 v4 S => by with_unfolding_all rfl
theorem Jj : AM X (Nh X.w.params).fd [p1, p2, p3, p4] [(ofString "key", kv)] [(ofString "a", p1), (ofString "x", p2), (ofString "lo", p3), (ofString "hi", p4), (ofString "key", kv)] := Jg (ds := []) KX (fun D h => .nil) fun v1 v2 v3 v4 vk S => by with_unfolding_all rfl
theorem LL : AM X (Ng X.w.params).fd [p1, p2, p3, p4] [] [(ofString "a", p1), (ofString "x", p2), (ofString "lo", p3), (ofString "hi", p4), (ofString "key", .none)] := LK (ds := [(ofString "key", .none)]) KX (fun D h => .cons AS .nil) fun v1 v2 v3 v4 S => by with_unfolding_all rfl
theorem LM : AM X (Ng X.w.params).fd [p1, p2, p3, p4] [(ofString "key", kv)] [(ofString "a", p1), (ofString "x", p2), (ofString "lo", p3), (ofString "hi", p4), (ofString "key", kv)] := Jg (ds := []) KX (fun D h => .nil) fun v1 v2 v3 v4 vk S => by with_unfolding_all rfl
theorem Pk : AM X (K8 X.w.params).fd [p1, p2] [] [(ofString "a", p1), (ofString "x", p2), (ofString "lo", .int 0), (ofString "hi", .none), (ofString "key", .none)] := LH (ds := [(ofString "lo", .int 0), (ofString "hi", .none), (ofString "key", .none)]) KX (fun D h => .cons (AT 0 _) (.cons AS (.cons AS .nil))) fun v1 v2 S => by with_unfolding_all rfl
theorem Os : AM X (K8 X.w.params).fd [p1, p2] [(ofString "key", kv)] [(ofString "a", p1), (ofString "x", p2), (ofString "lo", .int 0), (ofString "hi", .none), (ofString "key", kv)] := LI (ds := [(ofString "lo", .int 0), (ofString "hi", .none)]) KX (fun D h => .cons (AT 0 _) (.cons AS .nil)) fun v1 v2 vk S => by with_unfolding_all rfl
theorem Pl : AM X (K8 X.w.params).fd [p1, p2, p3] [] [(ofString "a", p1), (ofString "x", p2), (ofString "lo", p3), (ofString "hi", .none), (ofString "key", .none)] := On (ds := [(ofString "hi", .none), (ofString "key", .none)]) KX (fun D h => .cons AS (.cons AS .nil)) fun v1 v2 v3 S => by with_unfolding_all rfl
theorem Ot : AM X (K8 X.w.params).fd [p1, p2, p3] [(ofString "key", kv)] [(ofString "a", p1), (ofString "x", p2), (ofString "lo", p3), (ofString "hi", .none), (ofString "key", kv)] := LJ (ds := [(ofString "hi", .none)]) KX (fun D h => .cons AS .nil) fun v1 v2 v3 vk S => by with_unfolding_all rfl
theorem Pj : AM X (K7 X.w.params).fd [p1, p2] [] [(ofString "a", p1), (ofString "x", p2), (ofString "lo", .int 0), (ofString "hi", .none), (ofString "key", .none)] := LH (ds := [(ofString "lo", .int 0), (ofString "hi", .none), (ofString "key", .none)]) KX (fun D h => .cons (AT 0 _) (.cons AS (.cons AS .nil))) fun v1 v2 S => by with_unfolding_all rfl
theorem Oo : AM X (K7 X.w.params).fd [p1, p2] [(ofString "key", kv)] [(ofString "a", p1), (ofString "x", p2), (ofString "lo", .int 0), (ofString "hi", .none), (ofString "key", kv)] := LI (ds := [(ofString "lo", .int 0), (ofString "hi", .none)]) KX (fun D h => .cons (AT 0 _) (.cons AS .nil)) fun v1 v2 vk S => by with_unfolding_all rfl
theorem Op : AM X (K7 X.w.params).fd [p1, p2, p3] [(ofString "key", kv)] [(ofString "a", p1), (ofString "x", p2), (ofString "lo", p3), (ofString "hi", .none), (ofString "key", kv)] := LJ (ds := [(ofString "hi", .none)]) KX (fun D h => .cons AS .nil) fun v1 v2 v3 vk S => by with_unfolding_all rfl
theorem Oq : AM X (K7 X.w.params).fd [p1, p2, p3, p4] [(ofString "key", kv)] [(ofString "a", p1), (ofString "x", p2), (ofString "lo", p3), (ofString "hi", p4), (ofString "key", kv)] := Jg (ds := []) KX (fun D h => .nil) fun v1 v2 v3 v4 vk S => by with_unfolding_all rfl
end
section
variable (KX : (KK X.w.params).In X.h₀)
include KX
theorem Fa
  (G : AA X GG) (hA : A.depth < recursionLimit) (l : LV L pa ps) (hhv : (hv = .none ∧ hi = ps.length) ∨ hv = .int hi) (hkv : kv = .none ∨ ∃ a b c, kv = .lam a b c) (hhi : hi ≤ ps.length) (hlo : lo ≤ hi) (hz : ps.length < 2 ^ 60)
  (hb : AM X (Nh X.w.params).fd qs ks [(ofString "a", pa), (ofString "x", px), (ofString "lo", .int lo), (ofString "hi", hv), (ofString "key", kv)])
  (hf : ∀ i p A', A'.depth ≤ A.depth + 1 → A'.handled = A.handled → A'.units ≤ A.units + 3 → ps[i]? = some p → if kv.isNone then Bu X A' .Lt px p L (fun L' => L' = L ∧ f i = true) (fun L' => L' = L ∧ f i = false)
   else As X A' kv [p] [] L fun q L' => Bu X A' .Lt px q L' (fun L' => L' = L ∧ f i = true) (fun L' => L' = L ∧ f i = false))
  (hm : ∀ i j, lo ≤ i → i ≤ j → j < hi → f i = true → f j = true)
  (h : ∀ r, lo ≤ r → r ≤ hi → (∀ i, lo ≤ i → i < r → f i = false) → (∀ i, r ≤ i → i < hi → f i = true) → Q (.int r) L) :
  As X A (.val (.ref aBR)) qs ks L Q := by
 refine' BE (bs := _) (m₀ := [some pa, some px, some (.int lo), some hv, some kv, none, some (.val (.type "ValueError")), some (.val (.builtin "len"))])
  (KX aBR _ rfl) ?cr hA (Ak (by decide +kernel)) hb [ofString "a", ofString "x", ofString "lo", ofString "hi", ofString "key"] rfl (by decide +kernel) ?bk ?ini (by decide +kernel) ?_ rfl rfl rfl rfl rfl rfl
 case cr => exact ⟨_, _, _, _, rfl, KX Pb _ rfl, rfl, rfl⟩
 case bk => walk_at "b"
 case ini => walk_at "i"
 intro env ok hfn _ _
 dsimp only at ok ⊢
 have hA' : ∀ i p, ps[i]? = some p → _ := fun i p => hf i p (A.deeper env) (le_refl _) rfl (le_refl _)
 refine Ig [some pa, some px, some (.int lo), some hv, some kv, none, some (.val (.type "ValueError")), some (.val (.builtin "len"))] L ?_ ?_
 ·left
  ·intro q; lia
  intro _
  left
  exact ⟨rfl, rfl⟩
 refine Ig [some pa, some px, some (.int lo), some (.int hi), some kv, none, some (.val (.type "ValueError")), some (.val (.builtin "len"))] L ?_ ?_
 ·rcases hhv with ⟨rfl, rfl⟩ | rfl
  ·left
   refine Dm l (by exact Aq 0x10000000000000000d2a064080000000000000034a808421 rt hz) ?_
   left
   exact ⟨rfl, rfl⟩
  ·left
   exact ⟨rfl, rfl⟩
 refine GP (fun m' L' => L' = L ∧ ∃ (a : Nat) (b : Nat) (q : Option PV), m' = [some pa, some px, some (.int (a : Nat)), some (.int (b : Nat)), some kv, q, some (.val (.type "ValueError")), some (.val (.builtin "len"))] ∧ BI f true lo hi a a ∧ b = a) ?_ ?_
 ·rcases hkv with rfl | ⟨ka, kb, kc, rfl⟩
  ·left
   refine Ed (fun a b q => [some pa, some px, some (.int (a : Nat)), some (.int (b : Nat)), some .none, q, some (.val (.type "ValueError")), some (.val (.builtin "len"))]) (BI f true lo hi) (fun a b => b - a) (q₀ := none) (.start hlo) rfl fun J a b q I hJ => ?_
   left
   ·intro hab
    have hl := ilt hab
    left
    have hlt : (a + b) / 2 < ps.length := lt_of_lt_of_le (DH hl) (le_trans I.h3 hhi)
    refine Bm (k := (((a + b) / 2 : Nat) : Int)) l ge0 (Kc hlt hz) (q := ps[(a + b) / 2]) (by rw [toNat_natCast]; exact getElem?_eq_getElem hlt) ?_
    refine Bu.mono (hA' _ _ (getElem?_eq_getElem hlt)) (fun L' o => ?_) (fun L' o => ?_)
    ·refine Av (fun e hfi => ?_) o
     subst e
     left
     exact hJ a ((a + b) / 2) _ (I.down hm hl hfi).1 (I.down hm hl hfi).2
    ·refine Av (fun e hfi => ?_) o
     subst e
     left
     exact hJ ((a + b) / 2 + 1) b _ (I.up hm hl hfi).1 (I.up hm hl hfi).2
   ·intro hab
    have e := I.fin hab
    exact AC ⟨rfl, a, b, q, rfl, e ▸ I, e⟩
  ·left
   refine Ed (fun a b q => [some pa, some px, some (.int (a : Nat)), some (.int (b : Nat)), some (.lam ka kb kc), q, some (.val (.type "ValueError")), some (.val (.builtin "len"))]) (BI f true lo hi) (fun a b => b - a) (q₀ := none) (.start hlo) rfl fun J a b q I hJ => ?_
   left
   ·intro hab
    have hl := ilt hab
    left
    have hlt : (a + b) / 2 < ps.length := lt_of_lt_of_le (DH hl) (le_trans I.h3 hhi)
    refine Bm (k := (((a + b) / 2 : Nat) : Int)) l ge0 (Kc hlt hz) (q := ps[(a + b) / 2]) (by rw [toNat_natCast]; exact getElem?_eq_getElem hlt) ?_
    left
    refine As.mono (hA' _ _ (getElem?_eq_getElem hlt)) fun q L' hc => Bu.mono hc (fun L' o => ?_) (fun L' o => ?_)
    ·refine Av (fun e hfi => ?_) o
     subst e
     left
     exact hJ a ((a + b) / 2) _ (I.down hm hl hfi).1 (I.down hm hl hfi).2
    ·refine Av (fun e hfi => ?_) o
     subst e
     left
     exact hJ ((a + b) / 2 + 1) b _ (I.up hm hl hfi).1 (I.up hm hl hfi).2
   ·intro hab
    have e := I.fin hab
    exact AC ⟨rfl, a, b, q, rfl, e ▸ I, e⟩
 ·intro m' L' o
  refine Av (fun e o2 => ?_) o
  subst e
  refine BZ (fun a b q e I hb => ?_) o2
  subst e
  left
  exact h a I.h1 I.h3 I.h4 I.h5
theorem Ga
  (G : AA X GG) (hA : A.depth < recursionLimit) (l : LV L pa ps) (hhv : (hv = .none ∧ hi = ps.length) ∨ hv = .int hi) (hkv : kv = .none ∨ ∃ a b c, kv = .lam a b c) (hhi : hi ≤ ps.length) (hlo : lo ≤ hi) (hz : ps.length < 2 ^ 60)
  (hb : AM X (Ng X.w.params).fd qs ks [(ofString "a", pa), (ofString "x", px), (ofString "lo", .int lo), (ofString "hi", hv), (ofString "key", kv)])
  (hf : ∀ i p A', A'.depth ≤ A.depth + 1 → A'.handled = A.handled → A'.units ≤ A.units + 3 → ps[i]? = some p → if kv.isNone then Bu X A' .Lt p px L (fun L' => L' = L ∧ f i = true) (fun L' => L' = L ∧ f i = false)
   else As X A' kv [p] [] L fun q L' => Bu X A' .Lt q px L' (fun L' => L' = L ∧ f i = true) (fun L' => L' = L ∧ f i = false))
  (hm : ∀ i j, lo ≤ i → i ≤ j → j < hi → f i = false → f j = false)
  (h : ∀ r, lo ≤ r → r ≤ hi → (∀ i, lo ≤ i → i < r → f i = true) → (∀ i, r ≤ i → i < hi → f i = false) → Q (.int r) L) :
  As X A (.val (.ref aBL)) qs ks L Q := by
 refine' BE (bs := _) (m₀ := [some pa, some px, some (.int lo), some hv, some kv, none, some (.val (.type "ValueError")), some (.val (.builtin "len"))])
  (KX aBL _ rfl) ?cr hA (Ak (by decide +kernel)) hb [ofString "a", ofString "x", ofString "lo", ofString "hi", ofString "key"] rfl (by decide +kernel) ?bk ?ini (by decide +kernel) ?_ rfl rfl rfl rfl rfl rfl
 case cr => exact ⟨_, _, _, _, rfl, KX Pa _ rfl, rfl, rfl⟩
 case bk => walk_at "b"
 case ini => walk_at "i"
 intro env ok hfn _ _
 dsimp only at ok ⊢
 have hA' : ∀ i p, ps[i]? = some p → _ := fun i p => hf i p (A.deeper env) (le_refl _) rfl (le_refl _)
 refine Ig [some pa, some px, some (.int lo), some hv, some kv, none, some (.val (.type "ValueError")), some (.val (.builtin "len"))] L ?_ ?_
 ·left
  ·intro q; lia
  intro _
  left
  exact ⟨rfl, rfl⟩
 refine Ig [some pa, some px, some (.int lo), some (.int hi), some kv, none, some (.val (.type "ValueError")), some (.val (.builtin "len"))] L ?_ ?_
 ·rcases hhv with ⟨rfl, rfl⟩ | rfl
  ·left
   refine Dm l (by exact Aq 0x10000000000000000d2a064080000000000000034a808421 rt hz) ?_
   left
   exact ⟨rfl, rfl⟩
  ·left
   exact ⟨rfl, rfl⟩
 refine GP (fun m' L' => L' = L ∧ ∃ (a : Nat) (b : Nat) (q : Option PV), m' = [some pa, some px, some (.int (a : Nat)), some (.int (b : Nat)), some kv, q, some (.val (.type "ValueError")), some (.val (.builtin "len"))] ∧ BI f false lo hi a a ∧ b = a) ?_ ?_
 ·rcases hkv with rfl | ⟨ka, kb, kc, rfl⟩
  ·left
   refine Ed (fun a b q => [some pa, some px, some (.int (a : Nat)), some (.int (b : Nat)), some .none, q, some (.val (.type "ValueError")), some (.val (.builtin "len"))]) (BI f false lo hi) (fun a b => b - a) (q₀ := none) (.start hlo) rfl fun J a b q I hJ => ?_
   left
   ·intro hab
    have hl := ilt hab
    left
    have hlt : (a + b) / 2 < ps.length := lt_of_lt_of_le (DH hl) (le_trans I.h3 hhi)
    refine Bm (k := (((a + b) / 2 : Nat) : Int)) l ge0 (Kc hlt hz) (q := ps[(a + b) / 2]) (by rw [toNat_natCast]; exact getElem?_eq_getElem hlt) ?_
    walk_at "w"
    refine Bu.mono (hA' _ _ (getElem?_eq_getElem hlt)) (fun L' o => ?_) (fun L' o => ?_)
    ·refine Av (fun e hfi => ?_) o
     subst e
     left
     exact hJ ((a + b) / 2 + 1) b _ (I.up hm hl hfi).1 (I.up hm hl hfi).2
    ·refine Av (fun e hfi => ?_) o
     subst e
     left
     exact hJ a ((a + b) / 2) _ (I.down hm hl hfi).1 (I.down hm hl hfi).2
   ·intro hab
    have e := I.fin hab
    exact AC ⟨rfl, a, b, q, rfl, e ▸ I, e⟩
  ·left
   refine Ed (fun a b q => [some pa, some px, some (.int (a : Nat)), some (.int (b : Nat)), some (.lam ka kb kc), q, some (.val (.type "ValueError")), some (.val (.builtin "len"))]) (BI f false lo hi) (fun a b => b - a) (q₀ := none) (.start hlo) rfl fun J a b q I hJ => ?_
   left
   ·intro hab
    have hl := ilt hab
    left
    have hlt : (a + b) / 2 < ps.length := lt_of_lt_of_le (DH hl) (le_trans I.h3 hhi)
    refine Bm (k := (((a + b) / 2 : Nat) : Int)) l ge0 (Kc hlt hz) (q := ps[(a + b) / 2]) (by rw [toNat_natCast]; exact getElem?_eq_getElem hlt) ?_
    left
    refine As.mono (hA' _ _ (getElem?_eq_getElem hlt)) fun q L' hc => ?_
    walk_at "w"
    refine Bu.mono hc (fun L' o => ?_) (fun L' o => ?_)
    ·refine Av (fun e hfi => ?_) o
     subst e
     left
     exact hJ ((a + b) / 2 + 1) b _ (I.up hm hl hfi).1 (I.up hm hl hfi).2
    ·refine Av (fun e hfi => ?_) o
     subst e
     left
     exact hJ a ((a + b) / 2) _ (I.down hm hl hfi).1 (I.down hm hl hfi).2
   ·intro hab
    have e := I.fin hab
    exact AC ⟨rfl, a, b, q, rfl, e ▸ I, e⟩
 ·intro m' L' o
  refine Av (fun e o2 => ?_) o
  subst e
  refine BZ (fun a b q e I hb => ?_) o2
  subst e
  left
  exact h a I.h1 I.h3 I.h4 I.h5
end
section
variable (KX : (KK X.w.params).In X.h₀)
include KX
theorem Fc
  (G : AA X GG) (hA : A.depth + 1 < recursionLimit) (hl : (al, AO.list ps) ∈ L) (hhv : (hv = .none ∧ hi = ps.length) ∨ hv = .int hi) (hkv : kv = .none ∨ ∃ a b c, kv = .lam a b c) (hhi : hi ≤ ps.length) (hlo : lo ≤ hi) (hz : ps.length < 1000)
  (hb : AM X (K8 X.w.params).fd qs ks [(ofString "a", .ref al), (ofString "x", px), (ofString "lo", .int lo), (ofString "hi", hv), (ofString "key", kv)])
  (hpk : ∀ A', A'.depth ≤ A.depth + 1 → A'.handled = A.handled → A'.units ≤ A.units + 3 → if kv.isNone then pk = px else As X A' kv [px] [] L fun q L' => q = pk ∧ L' = L)
  (hf : ∀ i p A', A'.depth ≤ A.depth + 2 → A'.handled = A.handled → A'.units ≤ A.units + 6 → ps[i]? = some p → if kv.isNone then Bu X A' .Lt pk p L (fun L' => L' = L ∧ f i = true) (fun L' => L' = L ∧ f i = false)
   else As X A' kv [p] [] L fun q L' => Bu X A' .Lt pk q L' (fun L' => L' = L ∧ f i = true) (fun L' => L' = L ∧ f i = false))
  (hm : ∀ i j, i ≤ j → j < hi → f i = true → f j = true)
  (h : ∀ r, lo ≤ r → r ≤ hi → (∀ i, lo ≤ i → i < r → f i = false) → (∀ i, r ≤ i → i < hi → f i = true) → ∃ L', BQ L al (.list ps) (.list (ps.take r ++ px :: ps.drop r)) L' ∧ Q .none L') :
  As X A (.val (.ref aIR)) qs ks L Q := by
 refine' BE (bs := _) (m₀ := [some (.ref al), some px, some (.int lo), some hv, some kv, some (.val (.ref aBR))])
  (KX aIR _ rfl) ?cr (by exact Aa 0x4a0290910008421 rt hA) (Ak (by decide +kernel)) hb [ofString "a", ofString "x", ofString "lo", ofString "hi", ofString "key"] rfl (by decide +kernel) ?bk ?ini (by decide +kernel) ?_ rfl rfl rfl rfl rfl rfl
 case cr => exact ⟨_, _, _, _, rfl, KX Pd _ rfl, rfl, rfl⟩
 case bk => walk_at "b"
 case ini => walk_at "i"
 intro env ok hfn _ _
 dsimp only at ok ⊢
 have hpk' := hpk (A.deeper env) (le_refl _) rfl (le_refl _)
 refine GP (fun m' L' => L' = L ∧ ∃ r : Nat, m' = [some (.ref al), some px, some (.int r), some hv, some kv, some (.val (.ref aBR))] ∧ lo ≤ r ∧ r ≤ hi ∧ (∀ i, lo ≤ i → i < r → f i = false) ∧ (∀ i, r ≤ i → i < hi → f i = true)) ?_ ?_
 ·rcases hkv with rfl | ⟨ka, kb, kc, rfl⟩
  ·obtain rfl : pk = px := hpk'
   left
   refine Fa KX (lo := lo) (f := f) G (by show A.depth + 1 < _; exact Aa 0x2424400290910008421 rt hA) (.ref hl) hhv (.inl rfl) hhi hlo (by exact Aq 0x2000000000000000d2a03f408a808421 rt hz) (NU KX) (fun i p A' h1 h2 h3 h4 => hf i p A' h1 h2 (by exact le_trans h3 (le_refl _)) h4) (fun i j _ h => hm i j h) fun r h1 h2 h3 h4 => ?_
   left
   exact ⟨rfl, r, rfl, h1, h2, h3, h4⟩
  ·left
   refine As.mono hpk' ?_
   rintro q L' ⟨rfl, rfl⟩
   left
   refine Fa KX (lo := lo) (f := f) G (by show A.depth + 1 < _; exact Aa 0x2424400290910008421 rt hA) (.ref hl) hhv (.inr ⟨_, _, _, rfl⟩) hhi hlo (by exact Aq 0x2000000000000000d2a03f408a808421 rt hz) (Jj KX) (fun i p A' h1 h2 h3 h4 => hf i p A' h1 h2 (by exact le_trans h3 (le_refl _)) h4) (fun i j _ h => hm i j h) fun r h1 h2 h3 h4 => ?_
   left
   exact ⟨rfl, r, rfl, h1, h2, h3, h4⟩
 ·rintro m' L' ⟨rfl, r, rfl, h1, h2, h3, h4⟩
  obtain ⟨L2, S, hq⟩ := h r h1 h2 h3 h4
  left
  refine ⟨_, BJ F.slot_list_insert rfl (.ref hl), ?_⟩
  left
  refine I0 (by exact AB 0x95010a0052800422 rt hhi h2) S (by have : (1000 : Nat) ≤ sizeLine := (by decide); exact Aa 0x25004fd022803f408a808422 rt hz this) ⟨rfl, ?_⟩
  left
  exact hq
theorem Gw
  (G : AA X GG) (hA : A.depth + 1 < recursionLimit) (hl : (al, AO.list ps) ∈ L) (hhv : (hv = .none ∧ hi = ps.length) ∨ hv = .int hi) (hkv : kv = .none ∨ ∃ a b c, kv = .lam a b c) (hhi : hi ≤ ps.length) (hlo : lo ≤ hi) (hz : ps.length < 1000)
  (hb : AM X (K7 X.w.params).fd qs ks [(ofString "a", .ref al), (ofString "x", px), (ofString "lo", .int lo), (ofString "hi", hv), (ofString "key", kv)])
  (hpk : ∀ A', A'.depth ≤ A.depth + 1 → A'.handled = A.handled → A'.units ≤ A.units + 3 → if kv.isNone then pk = px else As X A' kv [px] [] L fun q L' => q = pk ∧ L' = L)
  (hf : ∀ i p A', A'.depth ≤ A.depth + 2 → A'.handled = A.handled → A'.units ≤ A.units + 6 → ps[i]? = some p → if kv.isNone then Bu X A' .Lt p pk L (fun L' => L' = L ∧ f i = true) (fun L' => L' = L ∧ f i = false)
   else As X A' kv [p] [] L fun q L' => Bu X A' .Lt q pk L' (fun L' => L' = L ∧ f i = true) (fun L' => L' = L ∧ f i = false))
  (hm : ∀ i j, i ≤ j → j < hi → f i = false → f j = false)
  (h : ∀ r, lo ≤ r → r ≤ hi → (∀ i, lo ≤ i → i < r → f i = true) → (∀ i, r ≤ i → i < hi → f i = false) → ∃ L', BQ L al (.list ps) (.list (ps.take r ++ px :: ps.drop r)) L' ∧ Q .none L') :
  As X A (.val (.ref aIL)) qs ks L Q := by
 refine' BE (bs := _) (m₀ := [some (.ref al), some px, some (.int lo), some hv, some kv, some (.val (.ref aBL))])
  (KX aIL _ rfl) ?cr (by exact Aa 0x4a0290910008421 rt hA) (Ak (by decide +kernel)) hb [ofString "a", ofString "x", ofString "lo", ofString "hi", ofString "key"] rfl (by decide +kernel) ?bk ?ini (by decide +kernel) ?_ rfl rfl rfl rfl rfl rfl
 case cr => exact ⟨_, _, _, _, rfl, KX Pc _ rfl, rfl, rfl⟩
 case bk => walk_at "b"
 case ini => walk_at "i"
 intro env ok hfn _ _
 dsimp only at ok ⊢
 have hpk' := hpk (A.deeper env) (le_refl _) rfl (le_refl _)
 refine GP (fun m' L' => L' = L ∧ ∃ r : Nat, m' = [some (.ref al), some px, some (.int r), some hv, some kv, some (.val (.ref aBL))] ∧ lo ≤ r ∧ r ≤ hi ∧ (∀ i, lo ≤ i → i < r → f i = true) ∧ (∀ i, r ≤ i → i < hi → f i = false)) ?_ ?_
 ·rcases hkv with rfl | ⟨ka, kb, kc, rfl⟩
  ·obtain rfl : pk = px := hpk'
   left
   refine Ga KX (lo := lo) (f := f) G (by show A.depth + 1 < _; exact Aa 0x2424400290910008421 rt hA) (.ref hl) hhv (.inl rfl) hhi hlo (by exact Aq 0x2000000000000000d2a03f408a808421 rt hz) (LL KX) (fun i p A' h1 h2 h3 h4 => hf i p A' h1 h2 (by exact le_trans h3 (le_refl _)) h4) (fun i j _ h => hm i j h) fun r h1 h2 h3 h4 => ?_
   left
   exact ⟨rfl, r, rfl, h1, h2, h3, h4⟩
  ·left
   refine As.mono hpk' ?_
   rintro q L' ⟨rfl, rfl⟩
   left
   refine Ga KX (lo := lo) (f := f) G (by show A.depth + 1 < _; exact Aa 0x2424400290910008421 rt hA) (.ref hl) hhv (.inr ⟨_, _, _, rfl⟩) hhi hlo (by exact Aq 0x2000000000000000d2a03f408a808421 rt hz) (LM KX) (fun i p A' h1 h2 h3 h4 => hf i p A' h1 h2 (by exact le_trans h3 (le_refl _)) h4) (fun i j _ h => hm i j h) fun r h1 h2 h3 h4 => ?_
   left
   exact ⟨rfl, r, rfl, h1, h2, h3, h4⟩
 ·rintro m' L' ⟨rfl, r, rfl, h1, h2, h3, h4⟩
  obtain ⟨L2, S, hq⟩ := h r h1 h2 h3 h4
  left
  refine ⟨_, BJ F.slot_list_insert rfl (.ref hl), ?_⟩
  left
  refine I0 (by exact AB 0x95010a0052800422 rt hhi h2) S (by have : (1000 : Nat) ≤ sizeLine := (by decide); exact Aa 0x25004fd022803f408a808422 rt hz this) ⟨rfl, ?_⟩
  left
  exact hq
end
section
variable (KX : (KK X.w.params).In X.h₀)
include KX
abbrev M7 : List Nat := (ofString "lo must be non-negative").cps.toList
theorem FZ {lo : Int}
  (G : AA X GG) (hfr : A.frames = some l) (hh : A.handled = none) (hA : A.depth < recursionLimit) (hlo : lo < 0)
  (hb : AM X (Nh X.w.params).fd qs ks [(ofString "a", pa), (ofString "x", px), (ofString "lo", .int lo), (ofString "hi", hv), (ofString "key", kv)]) :
  DC X A (.val (.ref aBR)) qs ks L l "ValueError" M7 fun L' => L' = L := by
 refine' EA (bs := _) (m₀ := [some pa, some px, some (.int lo), some hv, some kv, none, some (.val (.type "ValueError")), some (.val (.builtin "len"))]) hfr
  (KX aBR _ rfl) ?cr hA (Ak (by decide +kernel)) hb [ofString "a", ofString "x", ofString "lo", ofString "hi", ofString "key"] rfl (by decide +kernel) ?bk ?ini (by decide +kernel) ?_ rfl rfl rfl rfl rfl rfl
 case cr => exact ⟨_, _, _, _, rfl, KX Pb _ rfl, rfl, rfl⟩
 case bk => walk_at "b"
 case ini => walk_at "i"
 intro env ok hfn
 dsimp only at ok ⊢
 refine B5 (EV ?_)
 left
 ·intro _
  refine B5 (IT PySem.F.excCall_ValueError PySem.F.excRaise_ValueError (show (A.deeper env).handled = none from hh) rfl rfl ?_)
  left
  refine ⟨rfl, ?_⟩
  left
  exact ⟨rfl, rfl⟩
 ·intro h; lia
theorem Jv {lo : Int}
  (G : AA X GG) (hfr : A.frames = some l) (hh : A.handled = none) (hA : A.depth + 1 < recursionLimit) (hlo : lo < 0) (hkv : kv = .none ∨ ∃ a b c, kv = .lam a b c)
  (hb : AM X (K8 X.w.params).fd qs ks [(ofString "a", pa), (ofString "x", px), (ofString "lo", .int lo), (ofString "hi", hv), (ofString "key", kv)])
  (hpk : ∀ A', A'.depth ≤ A.depth + 1 → A'.handled = A.handled → A'.units ≤ A.units + 3 → if kv.isNone then pk = px else As X A' kv [px] [] L fun q L' => q = pk ∧ L' = L) :
  DC X A (.val (.ref aIR)) qs ks L l "ValueError" M7 fun L' => L' = L := by
 refine' EA (bs := _) (m₀ := [some pa, some px, some (.int lo), some hv, some kv, some (.val (.ref aBR))]) hfr
  (KX aIR _ rfl) ?cr (by exact Aa 0x4a0290910008421 rt hA) (Ak (by decide +kernel)) hb [ofString "a", ofString "x", ofString "lo", ofString "hi", ofString "key"] rfl (by decide +kernel) ?bk ?ini (by decide +kernel) ?_ rfl rfl rfl rfl rfl rfl
 case cr => exact ⟨_, _, _, _, rfl, KX Pd _ rfl, rfl, rfl⟩
 case bk => walk_at "b"
 case ini => walk_at "i"
 intro env ok hfn
 dsimp only at ok ⊢
 have hpk' := hpk (A.deeper env) (le_refl _) rfl (le_refl _)
 refine B5 (EV ?_)
 rcases hkv with rfl | ⟨ka, kb, kc, rfl⟩
 ·left
  refine B5 (Ee rfl (Ef ?_ rfl rfl rfl rfl))
  left
  exact FZ KX G (Around.frames_deeper hfr) hh (by show A.depth + 1 < _; exact Aa 0x2424400290910008421 rt hA) hlo (NU KX)
 ·left
  refine B5 (Ee rfl (Ef ?_ rfl rfl rfl rfl))
  left
  refine As.mono hpk' ?_
  rintro q L' ⟨rfl, rfl⟩
  left
  exact FZ KX G (Around.frames_deeper hfr) hh (by show A.depth + 1 < _; exact Aa 0x2424400290910008421 rt hA) hlo (Jj KX)
theorem Hf {lo : Int}
  (G : AA X GG) (hfr : A.frames = some l) (hh : A.handled = none) (hA : A.depth < recursionLimit) (hlo : lo < 0)
  (hb : AM X (Ng X.w.params).fd qs ks [(ofString "a", pa), (ofString "x", px), (ofString "lo", .int lo), (ofString "hi", hv), (ofString "key", kv)]) :
  DC X A (.val (.ref aBL)) qs ks L l "ValueError" M7 fun L' => L' = L := by
 refine' EA (bs := _) (m₀ := [some pa, some px, some (.int lo), some hv, some kv, none, some (.val (.type "ValueError")), some (.val (.builtin "len"))]) hfr
  (KX aBL _ rfl) ?cr hA (Ak (by decide +kernel)) hb [ofString "a", ofString "x", ofString "lo", ofString "hi", ofString "key"] rfl (by decide +kernel) ?bk ?ini (by decide +kernel) ?_ rfl rfl rfl rfl rfl rfl
 case cr => exact ⟨_, _, _, _, rfl, KX Pa _ rfl, rfl, rfl⟩
 case bk => walk_at "b"
 case ini => walk_at "i"
 intro env ok hfn
 dsimp only at ok ⊢
 refine B5 (EV ?_)
 left
 ·intro _
  refine B5 (IT PySem.F.excCall_ValueError PySem.F.excRaise_ValueError (show (A.deeper env).handled = none from hh) rfl rfl ?_)
  left
  refine ⟨rfl, ?_⟩
  left
  exact ⟨rfl, rfl⟩
 ·intro h; lia
theorem KN {lo : Int}
  (G : AA X GG) (hfr : A.frames = some l) (hh : A.handled = none) (hA : A.depth + 1 < recursionLimit) (hlo : lo < 0) (hkv : kv = .none ∨ ∃ a b c, kv = .lam a b c)
  (hb : AM X (K7 X.w.params).fd qs ks [(ofString "a", pa), (ofString "x", px), (ofString "lo", .int lo), (ofString "hi", hv), (ofString "key", kv)])
  (hpk : ∀ A', A'.depth ≤ A.depth + 1 → A'.handled = A.handled → A'.units ≤ A.units + 3 → if kv.isNone then pk = px else As X A' kv [px] [] L fun q L' => q = pk ∧ L' = L) :
  DC X A (.val (.ref aIL)) qs ks L l "ValueError" M7 fun L' => L' = L := by
 refine' EA (bs := _) (m₀ := [some pa, some px, some (.int lo), some hv, some kv, some (.val (.ref aBL))]) hfr
  (KX aIL _ rfl) ?cr (by exact Aa 0x4a0290910008421 rt hA) (Ak (by decide +kernel)) hb [ofString "a", ofString "x", ofString "lo", ofString "hi", ofString "key"] rfl (by decide +kernel) ?bk ?ini (by decide +kernel) ?_ rfl rfl rfl rfl rfl rfl
 case cr => exact ⟨_, _, _, _, rfl, KX Pc _ rfl, rfl, rfl⟩
 case bk => walk_at "b"
 case ini => walk_at "i"
 intro env ok hfn
 dsimp only at ok ⊢
 have hpk' := hpk (A.deeper env) (le_refl _) rfl (le_refl _)
 refine B5 (EV ?_)
 rcases hkv with rfl | ⟨ka, kb, kc, rfl⟩
 ·left
  refine B5 (Ee rfl (Ef ?_ rfl rfl rfl rfl))
  left
  exact Hf KX G (Around.frames_deeper hfr) hh (by show A.depth + 1 < _; exact Aa 0x2424400290910008421 rt hA) hlo (LL KX)
 ·left
  refine B5 (Ee rfl (Ef ?_ rfl rfl rfl rfl))
  left
  refine As.mono hpk' ?_
  rintro q L' ⟨rfl, rfl⟩
  left
  exact Hf KX G (Around.frames_deeper hfr) hh (by show A.depth + 1 < _; exact Aa 0x2424400290910008421 rt hA) hlo (LM KX)
end
section
variable (KX : (KK X.w.params).In X.h₀)
include KX
abbrev opv : Option Nat → PV
 | none => .none
 | some o => .int (o : Nat)
theorem GM {x : List Nat} (G : AA X GG) (hH : A.handled = none) (hA : A.depth + 1 < recursionLimit) (hx : x.length ≤ 2000) (hQ : Q (.str (BL x)) L) : As X A (.val (.ref aSq)) [.str x] [] L Q := by
 refine' BE (bs := [(ofString "addr", .str x)]) (m₀ := [some (.str x), none, none, none, none, none, some (.val (.ref aIt)), some (.val (.builtin "len"))])
  (KX aSq _ rfl) ?cr (by exact Aa 0x4a0290910008421 rt hA) (Ak (by decide +kernel)) ?bd [ofString "addr"] rfl (by decide +kernel) ?bk ?ini (by decide +kernel) ?_ rfl rfl rfl rfl rfl rfl
 case cr => exact ⟨_, _, _, _, rfl, KX QY _ rfl, rfl, rfl⟩
 case bk => walk_at "b"
 case ini => walk_at "i"
 case bd =>
  exact FY KX fun v1 S => by with_unfolding_all rfl
 intro env ok hfn _ _
 dsimp only at ok ⊢
 refine Ab ?_
 left
 refine LT (c := 34) (fun hm' => ?_) (fun hm' => ?_)
 ·left
  unfold BL at hQ
  rwa [if_neg hm'] at hQ
 unfold BL at hQ
 rw [if_pos hm'] at hQ
 left
 refine Ci ?_
 left
 refine ⟨by simp, fun a => ?_⟩
 left
 generalize hus : esc 0 false x = us at hQ
 refine GR (fun m' L' => ∃ q1 q2, m' = [some (.str x), some (.int ((Cu x us).start : Nat)), some (opv (Cu x us).opn), some (.ref a), q1, q2, some (.val (.ref aIt)), some (.val (.builtin "len"))] ∧ L' = (a, .list ((Cu x us).out.map .str)) :: L) ?_ ?_
 ·refine BM (tg := Ay) trivial ?_ (fun _ => rfl)
  left
  refine Hw KX G hH (by show A.depth + 1 < _; exact Aa 0x2424400290910008421 rt hA) ?_
  rw [hus]
  refine Nn (fun i (q1 : Option PV) (q2 : Option PV) => [some (.str x), some (.int (((us.take i).foldl (AH x) ⟨0, none, []⟩).start : Nat)), some (opv ((us.take i).foldl (AH x) ⟨0, none, []⟩).opn), some (.ref a), q1, q2, some (.val (.ref aIt)), some (.val (.builtin "len"))])
   (fun i => (a, .list (((us.take i).foldl (AH x) ⟨0, none, []⟩).out.map .str)) :: L) (x₀ := none) (y₀ := none) rfl rfl (fun J i p q1 q2 hp hJ1 => ?_) (fun q1 q2 => ?_)
  ·refine ⟨trivial, ?_⟩
   obtain ⟨u, hu, rfl⟩ : ∃ u, us[i]? = some u ∧ p = B0 u := by
    rw [getElem?_map] at hp
    cases q : us[i]? with
    | none => rw [q] at hp; cases hp
    | some u => rw [q] at hp; exact ⟨u, rfl, (Option.some.inj hp).symm⟩
   have hst : (us.take (i + 1)).foldl (AH x) ⟨0, none, []⟩ = AH x ((us.take i).foldl (AH x) ⟨0, none, []⟩) u := by
    rw [take_add_one, hu]; simp
   rw [hst] at hJ1
   have hbd := EQ x (us.take i) ⟨0, none, []⟩ (fun y hy => nomatch hy)
   have hlen : (us.take i).length ≤ x.length + 1 := by rw [length_take, ← hus]; exact le_trans (min_le_right _ _) (BG x 0 false)
   have hb2 : ((us.take i).foldl (AH x) ⟨0, none, []⟩).out.length ≤ x.length + 1 := le_trans hbd.2 (by simpa using hlen)
   clear hbd
   generalize (us.take i).foldl (AH x) ⟨0, none, []⟩ = st at hb2 hJ1 ⊢
   obtain ⟨pos, ch⟩ := u
   refine AQ ?_ rfl rfl
   right
   right
   show WS _ _ _ _ _ _ _ _ _ _ _
   left
   ·intro hc
    have hc' : ch = [34] := hc
    subst hc'
    obtain ⟨start, opn, out⟩ := st
    cases opn with
    | none =>
     left
     exact hJ1 _ _ _ rfl
    | some o =>
     left
     ·intro hne
      left
      refine ⟨_, BJ F.slot_list_append rfl (.ref (.head _)), ?_⟩
      left
      refine ⟨_, rfl, ?_⟩
      left
      refine ⟨_, rfl, ?_⟩
      left
      refine FN ?_
      left
      refine BR .here (by rw [length_map]; exact sl (big (le_trans hb2 (succ_le_succ hx)) rfl)) ⟨rfl, ?_⟩
      left
      have hs : AH x ⟨start, some o, out⟩ (pos, [34]) = ⟨pos + 1, none, out ++ [pick x (some start) (some o) none]⟩ := by
       unfold AH
       have : start ≠ o := fun h => hne (by rw [h])
       simp [this]
      rw [hs] at hJ1
      refine hJ1 _ _ _ ?_
      simp
     ·intro hne
      left
      have hs : AH x ⟨start, some o, out⟩ (pos, [34]) = ⟨pos + 1, none, out⟩ := by
       unfold AH
       have : start = o := by
        have h : (start : Int) = o := by simpa using hne
        exact GH 0x250248d032c021 rt hne
       simp [this]
      rw [hs] at hJ1
      exact hJ1 _ _ _ rfl
   ·intro hc
    have hc' : ¬ ch = [34] := hc
    left
    have hs : AH x st (pos, ch) = st := by unfold AH; rw [if_neg hc']
    rw [hs] at hJ1
    exact hJ1 _ _ _ rfl
  ·rw [length_map, take_length]
   refine ⟨trivial, ?_⟩
   left
   exact ⟨q1, q2, rfl, rfl⟩
 ·rintro m1 L1 ⟨q1, q2, rfl, rfl⟩
  have hsum := Ld hx
  rw [hus] at hsum
  refine Ab ?_
  refine GR (fun m' L' => m' = [some (.str x), some (.int ((Cu x us).start : Nat)), some (opv (Cu x us).opn), some (.ref a), q1, q2, some (.val (.ref aIt)), some (.val (.builtin "len"))] ∧ L' = (a, .list ((Ct x (Cu x us)).map .str)) :: L) ?_ ?_
  ·left
   refine I5 ?_
   left
   ·intro hlt
    have hlt' : (Cu x us).start < x.length := by exact Aa 0x250148d0320421 rt hlt
    left
    refine ⟨_, BJ F.slot_list_append rfl (.ref (.head _)), ?_⟩
    left
    refine ⟨_, rfl, ?_⟩
    left
    refine FN ?_
    left
    have hb := (EQ x us ⟨0, none, []⟩ (fun y hy => nomatch hy)).2
    have hle := BG x 0 false
    rw [hus] at hle
    refine BR .here (by rw [length_map]; have : (10000 : Nat) ≤ sizeLine := (by decide); exact le_trans hb (by simp; exact AB 0x5240a4e20328021220090043e80ca800423 rt hx hle this)) ⟨rfl, ?_⟩
    left
    refine ⟨rfl, ?_⟩
    unfold Ct
    rw [if_pos hlt']
    simp
   ·intro hlt
    have hlt' : ¬ (Cu x us).start < x.length := by exact Aa 0x9404c91a06430421 rt hlt
    left
    refine ⟨rfl, ?_⟩
    unfold Ct
    rw [if_neg hlt']
  ·rintro m' L' ⟨rfl, rfl⟩
   walk_at "w"
   walk_at "w"
   refine WE.drop ?_
   left
   refine ⟨_, J3 F.slot_str_join F.type_str_join, ?_⟩
   left
   refine Jx (.ref (.head _)) hsum ⟨_, _, _, .here, ?_⟩
   exact hQ
theorem Jl {x : List Nat} (G : AA X GG) (hH : A.handled = none) (hA : A.depth + 2 < recursionLimit) (hx : x.length ≤ 2000) (hQ : Q (.bool (Db x)) L) : As X A (.val (.ref aCp)) [.str x] [] L Q := by
 refine' BE (bs := [(ofString "addr", .str x)]) (m₀ := [some (.str x), none, none, none, some (.val (.ref aSq)), some (.val (.ref aIt))])
  (KX aCp _ rfl) ?cr (by exact Aa 0x4a0291110008421 rt hA) (Ak (by decide +kernel)) ?bd [ofString "addr"] rfl (by decide +kernel) ?bk ?ini (by decide +kernel) ?_ rfl rfl rfl rfl rfl rfl
 case cr => exact ⟨_, _, _, _, rfl, KX QR _ rfl, rfl, rfl⟩
 case bk => walk_at "b"
 case ini => walk_at "i"
 case bd =>
  exact FY KX fun v1 S => by with_unfolding_all rfl
 intro env ok hfn _ _
 dsimp only at ok ⊢
 refine Ab ?_
 left
 refine GM KX G hH (by show A.depth + 1 + 1 < _; exact Aa 0x12120488000291110008421 rt hA) hx ?_
 left
 generalize hus : esc 0 false (BL x) = us
 have hc : Db x = CH us 0 := by rw [← hus]; rfl
 rw [hc] at hQ
 generalize hR : CH us 0 = R at hQ
 refine BM (tg := Ay) trivial ?_ (fun _ => rfl)
 left
 refine Hw KX G hH (by show A.depth + 1 < _; exact Aa 0x2424400291110008421 rt hA) ?_
 rw [hus]
 refine JV (fun i (o : Int) (q1 : Option PV) (q2 : Option PV) => [some (.str (BL x)), some (.int o), q1, q2, some (.val (.ref aSq)), some (.val (.ref aIt))]) (fun i o q1 q2 => L) (fun i o q1 q2 => R = CH (us.drop i) o) (x₀ := 0) (y₀ := none) (z₀ := none) hR.symm rfl rfl (fun J i p o q1 q2 hp ho hJ1 => ?_) (fun o q1 q2 ho => ?_)
 ·refine ⟨trivial, ?_⟩
  obtain ⟨u, hu, rfl⟩ : ∃ u, us[i]? = some u ∧ p = B0 u := by
   rw [getElem?_map] at hp
   cases q : us[i]? with
   | none => rw [q] at hp; cases hp
   | some u => rw [q] at hp; exact ⟨u, rfl, (Option.some.inj hp).symm⟩
  have hd : us.drop i = u :: us.drop (i + 1) := by
   obtain ⟨hlt, e⟩ := List.getElem?_eq_some_iff.mp hu
   rw [← e]; exact drop_eq_getElem_cons hlt
  rw [hd] at ho
  unfold CH at ho
  obtain ⟨pos, ch⟩ := u
  refine AQ ?_ rfl rfl
  right
  right
  show WS _ _ _ _ _ _ _ _ _ _ _
  left
  ·intro hc
   have hc' : ch = [40] := hc
   rw [if_pos (show (pos, ch).2 = [40] from hc')] at ho
   left
   exact hJ1 _ _ _ _ ho rfl
  ·intro hc
   have hc' : ¬ ch = [40] := hc
   rw [if_neg (show ¬ (pos, ch).2 = [40] from hc')] at ho
   left
   ·intro hc
    have hc' : ch = [41] := hc
    rw [if_pos (show (pos, ch).2 = [41] from hc')] at ho
    left
    ·intro hlt
     rw [if_pos hlt] at ho
     left
     rw [ho] at hQ
     exact hQ
    ·intro hlt
     rw [if_neg hlt] at ho
     left
     exact hJ1 _ _ _ _ ho rfl
   ·intro hc
    have hc' : ¬ ch = [41] := hc
    rw [if_neg (show ¬ (pos, ch).2 = [41] from hc')] at ho
    left
    exact hJ1 _ _ _ _ ho rfl
 ·rw [length_map, drop_length] at ho
  refine ⟨trivial, ?_⟩
  left
  unfold CH at ho
  rw [ho] at hQ
  exact hQ
theorem JE {xs : List (List Nat)} (G : AA X GG) (hH : A.handled = none) (hA : A.depth + 3 < recursionLimit) (hx : ∀ x ∈ xs, x.length ≤ 2000) (hxs : xs.length ≤ 100) (hQ : Q (.lst ((xs.map E2).map .str)) L) :
  As X A (.val (.ref aPv)) [.tup (xs.map .str)] [] L Q := by
 refine As.freeze ?_
 refine' BE (bs := [(ofString "email_header_fields", .tup (xs.map .str))]) (m₀ := [some (.tup (xs.map .str)), none, none, some (.val (.ref aCp))])
  (KX aPv _ rfl) ?cr (by exact Aa 0x4a0291910008421 rt hA) (Ak (by decide +kernel)) ?bd [ofString "email_header_fields"] rfl (by decide +kernel) ?bk ?ini (by decide +kernel) ?_ rfl rfl rfl rfl rfl rfl
 case cr => exact ⟨_, _, _, _, rfl, KX QX _ rfl, rfl, rfl⟩
 case bk => walk_at "b"
 case ini => walk_at "i"
 case bd =>
  exact FY KX fun v1 S => by with_unfolding_all rfl
 intro env ok hfn _ _
 dsimp only at ok ⊢
 refine Ab ?_
 left
 refine Ci ?_
 left
 refine ⟨by simp, fun a => ?_⟩
 left
 refine BM (tg := Ay) trivial (AZ ?_) (fun _ => rfl)
 left
 refine ⟨_, _, .tup, trivial, JU (fun i (q1 : Option PV) => [some (.tup (xs.map .str)), some (.ref a), q1, some (.val (.ref aCp))]) (fun i => (a, .list (((xs.take i).map E2).map .str)) :: L) (x₀ := none) rfl rfl (fun J i p q1 hp hJ1 => ?_) (fun q1 => ?_)⟩
 ·refine ⟨trivial, ?_⟩
  obtain ⟨u, hu, rfl⟩ : ∃ u, xs[i]? = some u ∧ p = .str u := by
   rw [getElem?_map] at hp
   cases q : xs[i]? with
   | none => rw [q] at hp; cases hp
   | some u => rw [q] at hp; exact ⟨u, rfl, (Option.some.inj hp).symm⟩
  rw [take_add_one, hu] at hJ1
  have hlen : (xs.take i).length ≤ 100 := by rw [length_take]; exact le_trans (min_le_right _ _) hxs
  right
  refine Ab ?_
  refine GR (fun m' L' => m' = [some (.tup (xs.map .str)), some (.ref a), some (.str (E2 u)), some (.val (.ref aCp))] ∧ L' = (a, .list (((xs.take i).map E2).map .str)) :: L) ?_ ?_
  ·left
   refine JH rfl ?_
   left
   refine Jl KX G hH (by show A.depth + 1 + 2 < _; exact Aa 0x12220488000291910008421 rt hA) (hx u (mem_of_getElem? hu)) ?_
   unfold E2
   refine Ia (fun h => ?_) (fun h => ?_)
   ·rw [if_pos h]
    left
    exact ⟨rfl, rfl⟩
   ·rw [if_neg (by rw [h]; exact Bool.false_ne_true)]
    left
    exact ⟨rfl, rfl⟩
  ·rintro m' L' ⟨rfl, rfl⟩
   left
   refine ⟨_, BJ F.slot_list_append rfl (.ref (.head _)), ?_⟩
   left
   refine BR .here (by rw [length_map, length_map]; exact sl (big hlen rfl)) ⟨rfl, ?_⟩
   left
   exact hJ1 _ _ (by simp)
 ·rw [length_map, take_length]
  refine ⟨trivial, ?_⟩
  left
  exact ⟨_, _, _, rfl, .here, hQ⟩
end
inductive WsI (x9 : List Nat) (i9 : Nat) (st9 : Wst) : Prop
 | mk (hc : st9.count.length ≤ i9) (hb : st9.b ≤ i9) (hi : i9 ≤ x9.length) (hrun : Er st9 (x9.drop i9) = EU x9)
section
variable (KX : (KK X.w.params).In X.h₀)
include KX
theorem KM {d : Addr} {x : List Nat} (G : AA X GG) (hH : A.handled = none) (hA : A.depth < recursionLimit) (hx : x.length ≤ 2000)
  (hQ : Q .none ((d, .attrs Gv (Gu x (EU x))) :: L)) : Hc X A (.ref aIn) [.obj aWs d, .str x] [] ((d, .attrs [] []) :: L) Q := by
 refine' Ip (bs := [(ofString "self", .obj aWs d), (ofString "ws", .str x)]) (m₀ := [some (.obj aWs d), some (.str x), none, none, none, none, none, none, none, some (.val (.ref aWs)), some (.val (.builtin "len")), some (.val (.type "tuple"))])
  (KX aIn _ rfl) ?cr (by exact Aa 0x94052808421 rt hA) (Ak (by decide +kernel)) ?bd [ofString "self", ofString "ws"] rfl (by decide +kernel) ?bk ?ini (by decide +kernel) ?_ rfl rfl rfl rfl rfl rfl
 case cr => exact ⟨_, _, _, _, rfl, KX QT _ rfl, rfl, rfl⟩
 case bk => walk_at "b"
 case ini => walk_at "i"
 case bd =>
  exact JM KX fun v1 v2 S => by with_unfolding_all rfl
 intro env ok hfn _ _
 dsimp only at ok ⊢
 refine Ab ?_
 refine B1 (C := aWs) KX rfl (by rfl) (by rfl) (by rfl) (by rfl) ?_
 left
 refine ⟨d, _, _, _, rfl, rfl, by decide, .here, ?_⟩
 left
 refine BY rfl (MM ok (by walk_at "m") (by walk_at "m") rfl (by decide +kernel) rfl rfl rfl rfl) ?_
 left
 refine Il KX (mc := .type "type") (q := .str [32]) (by rfl) (by rfl) (by rfl) (fun D h => by exact And.intro (by decide) ⟨_, rfl⟩) ?_
 left
 refine Il KX (mc := .type "type") (q := .str [9]) (by rfl) (by rfl) (by rfl) (fun D h => by exact And.intro (by decide) ⟨_, rfl⟩) ?_
 left
 refine ⟨by decide, _, rfl, rfl, ?_⟩
 refine Cy (AJ (by walk_at "s") (by decide) ?_)
 refine Cy (AJ (by walk_at "s") (by decide) ?_)
 show WS _ _ _ _ _ _ _ _ _ _ _
 left
 refine Ci ?_
 left
 refine ⟨by simp, fun a => ?_⟩
 left
 refine JG rfl ?_ rfl rfl
 left
 right
 right
 right
 refine Ab ?_
 refine GR (fun m' L' => ∃ (a : Addr) (q : Option PV), m' = [some (.obj aWs d), some (.str x), some (.str [32]), some (.str [9]), some (.ref a), some (.int ((EU x).b : Nat)), some (.int ((EU x).n : Nat)), some (.int ((EU x).nt : Nat)), q, some (.val (.ref aWs)), some (.val (.builtin "len")), some (.val (.type "tuple"))] ∧
  L' = (a, .list (An (EU x).count)) :: (d, .attrs [ofString "raw"] [.str x]) :: L ∧ (EU x).count.length ≤ x.length) ?_ ?_
 ·refine BM (tg := Ay) trivial (AZ ?_) (fun _ => rfl)
  left
  refine LC KX (q := .str x) (.tail _ (.head _)) (by rfl) (by rfl) (by rfl) (by rfl) (by rfl) rfl (fun _ h => nomatch h) ?_
  refine ⟨_, _, .str, trivial, JV (fun i (st : Wst) (a : Addr) (q : Option PV) => [some (.obj aWs d), some (.str x), some (.str [32]), some (.str [9]), some (.ref a), some (.int (st.b : Nat)), some (.int (st.n : Nat)), some (.int (st.nt : Nat)), q, some (.val (.ref aWs)), some (.val (.builtin "len")), some (.val (.type "tuple"))])
   (fun i st a q => (a, .list (An st.count)) :: (d, .attrs [ofString "raw"] [.str x]) :: L) (fun i st a q => WsI x i st) (x₀ := ⟨[], 0, 0, 0⟩) (y₀ := a) (z₀ := none) ⟨le_refl _, le_refl _, zero_le _, rfl⟩ rfl rfl (fun J i p st a q hp hj hJ1 => ?_) (fun st a q hj => ?_)⟩
  ·obtain ⟨hc, hb, hi, hrun⟩ := hj
   refine ⟨trivial, ?_⟩
   obtain ⟨c, hxc, rfl⟩ := Dg hp
   obtain ⟨hlt, hxc'⟩ := List.getElem?_eq_some_iff.mp hxc
   have hd : x.drop i = c :: x.drop (i + 1) := by rw [← hxc']; exact drop_eq_getElem_cons hlt
   rw [hd] at hrun
   unfold Er at hrun
   obtain ⟨ct, b, n, nt⟩ := st
   right
   dsimp only at *
   left
   ·intro hc32
    obtain rfl : c = 32 := by simpa using hc32
    left
    exact hJ1 ⟨ct, b + 1, n + 1, nt⟩ a _ _ ⟨Nat.le_succ_of_le hc, succ_le_succ hb, hlt, hrun⟩ rfl
   ·intro hc32
    have hc32' : c ≠ 32 := fun h => hc32 (by rw [h])
    left
    ·intro hc9
     obtain rfl : c = 9 := by simpa using hc9
     have hrun' : Er ⟨(if ct.length ≤ b then ct ++ replicate (b - ct.length + 1) 0 else ct).set b ((if ct.length ≤ b then ct ++ replicate (b - ct.length + 1) 0 else ct).getD b 0 + 1), 0, n + 1, nt + 1⟩ (x.drop (i + 1)) = EU x := hrun
     generalize hct : (if ct.length ≤ b then ct ++ replicate (b - ct.length + 1) 0 else ct) = ct2 at hrun'
     have hb20 : b ≤ 2000 := le_trans hb (le_trans (le_of_lt hlt) hx)
     have hc20 : ct.length ≤ 2000 := le_trans hc (le_trans (le_of_lt hlt) hx)
     have hb2 : b < ct2.length ∧ ct2.length ≤ i + 1 := by
      rw [← hct]
      by_cases hle : ct.length ≤ b
      ·rw [if_pos hle, length_append, length_replicate, ← Nat.add_assoc, Nat.add_sub_of_le hle]; exact ⟨lt_succ_self b, succ_le_succ hb⟩
      ·rw [if_neg hle]; exact ⟨Nat.lt_of_not_le hle, Nat.le_succ_of_le hc⟩
     iterate 14 walk_at "w"
     refine Ab ?_
     refine GR (fun m' L' => ∃ a : Addr, m' = [some (.obj aWs d), some (.str x), some (.str [32]), some (.str [9]), some (.ref a), some (.int (b : Nat)), some (.int ((n + 1 : Nat) : Int)), some (.int ((nt + 1 : Nat) : Int)), some (.str [9]), some (.val (.ref aWs)), some (.val (.builtin "len")), some (.val (.type "tuple"))] ∧
      L' = (a, .list (An ct2)) :: (d, .attrs [ofString "raw"] [.str x]) :: L) ?_ ?_
     ·left
      refine Dm (.ref (.head _)) (by rw [length_map]; exact M2 (big hc20 rfl)) ?_
      left
      ·intro hge
       have hle : ct.length ≤ b := by rw [length_map] at hge; exact Int.ofNat_le.mp hge
       left
       refine DP ?_
       left
       refine ⟨by decide, ?_⟩
       left
       refine Dm (.ref (.head _)) (by rw [length_map]; exact M2 (big hc20 rfl)) ?_
       left
       have hk : ((b : Int) - ((An ct).length : Nat) + 1) = ((b - ct.length + 1 : Nat) : Int) := by rw [length_map, Rm hle]; rfl
       rw [hk]
       have hbk : b - ct.length + 1 ≤ 2001 := succ_le_succ (le_trans (sub_le _ _) hb20)
       refine CR.freeze (J5 .lst (Nz (big hbk rfl)) Oz (by rw [toNat_natCast]; show 1 * _ ≤ _; rw [Nat.one_mul]; exact sl (big hbk rfl)) fun t => ⟨t, _, _, rfl, .here, ?_⟩)
       have hrep : GX [PV.int 0] ((b - ct.length + 1 : Nat) : Int) = An (replicate (b - ct.length + 1) 0) := by
        unfold GX
        rw [toNat_natCast]
        generalize b - ct.length + 1 = k
        induction k with
        | zero => rfl
        | succ k ih => rw [replicate_succ, flatten_cons, ih, replicate_succ]; rfl
       rw [hrep]
       refine Lx (.ref (.head _)) .lst (by rw [length_map, length_map, length_replicate, ← Nat.add_assoc, Nat.add_sub_of_le hle]; exact sl (big (succ_le_succ hb20) rfl)) fun a2 => ?_
       refine AJ (by walk_at "s") (by decide) ?_
       refine Ie (.there .here) ?_
       left
       refine ⟨a2, rfl, ?_⟩
       rw [← hct, if_pos hle]
       simp
      ·intro hge
       have hle : ¬ ct.length ≤ b := by rw [length_map] at hge; exact fun h => hge (Int.ofNat_le.mpr h)
       left
       rw [← hct, if_neg hle]
       exact ⟨a, rfl, rfl⟩
     ·rintro m' L' ⟨a, rfl, rfl⟩
      refine Ab ?_
      refine Hb rfl ?_
      left
      refine O5 (k := b) (.ref (.head _)) (big hb20 rfl) (q := .int (ct2.getD b 0 : Nat)) (by rw [getElem?_map, getD_eq_getElem?_getD, getElem?_eq_getElem hb2.1]; rfl) ?_
      left
      refine ⟨a, _, _, _, rfl, rfl, ge0, Nz (big hb20 rfl), by rw [toNat_natCast, length_map]; exact hb2.1, .here, ?_⟩
      left
      refine hJ1 _ a _ _ ⟨by rw [List.length_set]; exact hb2.2, zero_le _, hlt, hrun'⟩ ?_
      simp [List.map_set]
    ·intro hc9
     have hc9' : c ≠ 9 := fun h => hc9 (by rw [h])
     have : CM ⟨ct, b, n, nt⟩ c = none := by unfold CM; rw [if_neg hc32', if_neg hc9']
     rw [this] at hrun
     left
     refine MX ?_
     rw [← hrun]
     exact ⟨a, _, rfl, rfl, by simp; exact AB 0x95010a0052800422 rt hi hc⟩
  ·obtain ⟨hc, hb, hi, hrun⟩ := hj
   have hl : (Bk x).length = x.length := by simp [Bk]
   rw [hl, drop_length] at hrun
   rw [hl] at hc
   refine ⟨trivial, ?_⟩
   left
   rw [← hrun]
   exact ⟨a, q, rfl, rfl, hc⟩
 ·rintro m' L' ⟨a, q, rfl, rfl, hlen⟩
  refine Ab ?_
  refine B1 (C := aWs) KX rfl (by rfl) (by rfl) (by rfl) (by rfl) ?_
  left
  refine ⟨d, _, _, _, rfl, rfl, by decide, .there .here, ?_⟩
  refine Ab ?_
  refine B1 (C := aWs) KX rfl (by rfl) (by rfl) (by rfl) (by rfl) ?_
  left
  refine ⟨d, _, _, _, rfl, rfl, by decide, .there .here, ?_⟩
  refine Ab ?_
  refine B1 (C := aWs) KX rfl (by rfl) (by rfl) (by rfl) (by rfl) ?_
  left
  refine Kv (.ref (.head _)) (by rw [length_map]; exact sl (big (le_trans hlen hx) rfl)) ?_
  left
  refine ⟨(by decide : 2 ≤ sizeLine), ?_⟩
  left
  refine ⟨d, _, _, _, rfl, rfl, by decide, .there .here, ?_⟩
  refine Ab ?_
  refine B1 (C := aWs) KX rfl (by rfl) (by rfl) (by rfl) (by rfl) ?_
  left
  refine Dm (.ref (.head _)) (by rw [length_map]; exact M2 (big (le_trans hlen hx) rfl)) ?_
  left
  refine ⟨d, _, _, _, rfl, rfl, by decide, .there .here, ?_⟩
  refine Ie .here ?_
  left
  have e : decide (((An (EU x).count).length : Int) ≤ 1) = decide ((EU x).count.length ≤ 1) := by
   rw [length_map, decide_eq_decide]; exact Int.ofNat_le (n := 1)
  rw [e]
  exact hQ
theorem OJ {x : List Nat} (G : AA X GG) (hH : A.handled = none) (hA : A.depth + 1 < recursionLimit) (hx : x.length ≤ 2000)
  (hQ : Q (.ins aWs Gv (Gu x (EU x))) L) : As X A (.val (.ref aWs)) [.str x] [] L Q := by
 refine LN (fI := aIn) KX (by rfl) (by rfl) (by rfl) fun d A' h1 h2 => ?_
 exact KM KX G (h1.trans hH) (lt_of_le_of_lt h2 hA) hx ⟨rfl, _, _, _, .here, hQ⟩
theorem Mn {x : List Nat} {st : Wst} {ts : Nat} (G : AA X GG) (hH : A.handled = none) (hA : A.depth < recursionLimit) (hts : 0 < ts ∧ ts < 1000) (hc : st.count.length ≤ 10000)
  (hQ : Q (.int (GV st ts)) L) : As X A (.val (.ref aLv)) [.ins aWs Gv (Gu x st), .int ts] [] L Q := by
 refine' BE (bs := [(ofString "self", .ins aWs Gv (Gu x st)), (ofString "tabsize", .int ts)]) (m₀ := [some (.ins aWs Gv (Gu x st)), some (.int ts), none, none, none, none, some (.val (.type "range")), some (.val (.builtin "len"))])
  (KX aLv _ rfl) ?cr (by exact Aa 0x94052808421 rt hA) (Ak (by decide +kernel)) ?bd [ofString "self", ofString "tabsize"] rfl (by decide +kernel) ?bk ?ini (by decide +kernel) ?_ rfl rfl rfl rfl rfl rfl
 case cr => exact ⟨_, _, _, _, rfl, KX QW _ rfl, rfl, rfl⟩
 case bk => walk_at "b"
 case ini => walk_at "i"
 case bd =>
  exact JM KX fun v1 v2 S => by with_unfolding_all rfl
 intro env ok hfn _ _
 dsimp only at ok ⊢
 refine Ab ?_
 refine De ?_ rfl rfl
 left
 refine Im KX (q := .tup [.tup (An st.count), .int st.b]) (by rfl) (by rfl) (by rfl) (by rfl) (by rfl) rfl (fun _ h => nomatch h) ?_
 refine AQ ?_ rfl rfl
 right
 right
 show WS _ _ _ _ _ _ _ _ _ _ _
 left
 refine GR (fun m' L' => ∃ q : Option PV, m' = [some (.ins aWs Gv (Gu x st)), some (.int ts), some (.tup (An st.count)), some (.int st.b), some (.int ((((List.range (st.count.length - ts)).map fun j => (ts + j) / ts * st.count.getD (ts + j) 0).sum : Nat) : Int)), q, some (.val (.type "range")), some (.val (.builtin "len"))] ∧ L' = L) ?_ ?_
 ·refine BM (tg := Ay) trivial ?_ (fun _ => rfl)
  left
  refine Qa (by rw [length_map]; exact lt_of_le_of_lt hc (by decide)) ?_
  left
  refine Hk Oz (Nz (big (le_of_lt hts.2) rfl)) Oz (by rw [length_map]; exact Nz (big hc rfl)) ?_
  rw [show (((An st.count).length : Nat) - (ts : Int)).toNat = st.count.length - ts by rw [length_map]; exact Int.toNat_sub _ _]
  refine JU (fun i (q : Option PV) => [some (.ins aWs Gv (Gu x st)), some (.int ts), some (.tup (An st.count)), some (.int st.b), some (.int ((((List.range i).map fun j => (ts + j) / ts * st.count.getD (ts + j) 0).sum : Nat) : Int)), q, some (.val (.type "range")), some (.val (.builtin "len"))]) (fun i => L) (x₀ := none) rfl rfl (fun J i p q hp hJ => ?_) (fun q => ?_)
  ·refine ⟨trivial, ?_⟩
   obtain ⟨hlt, rfl⟩ := D3 hp
   rw [range_succ, map_append, List.sum_append] at hJ
   have hti : ts + i < st.count.length := by rw [Nat.add_comm]; exact Nat.add_lt_of_lt_sub hlt
   have hti2 := big (le_of_lt (lt_of_lt_of_le hti hc)) rfl
   have e1 : ((ts : Int) + (i : Int) * 1) = ((ts + i : Nat) : Int) := by rw [Int.mul_one]; rfl
   rw [e1]
   right
   left
   refine Nr (k := ts + i) hti2 (q := .int ((st.count.getD (ts + i) 0 : Nat) : Int)) (by rw [getElem?_map, getD_eq_getElem?_getD, getElem?_eq_getElem hti]; rfl) ?_
   have hq : (ts + i) / ts ≤ ts + i := Nat.div_le_self _ _
   refine DI (.inl (Qe (n := (ts + i) / ts) (le_trans hq hti2))) ?_
   left
   exact hJ (some (.int ((ts + i : Nat) : Int))) _ rfl
  ·rw [D4]
   refine ⟨trivial, ?_⟩
   left
   exact ⟨q, rfl, rfl⟩
 ·rintro m' L' ⟨q, rfl, rfl⟩
  left
  refine Im KX (q := .int st.nt) (by rfl) (by rfl) (by rfl) (by rfl) (by rfl) rfl (fun _ h => nomatch h) ?_
  left
  refine DI (.inl (Qe (big (le_of_lt hts.2) rfl))) ?_
  left
  unfold GV at hQ
  simpa using hQ
end
abbrev Km : Str := ofString "law.<locals>.<lambda>"
abbrev ER : Addr × AO := (aTab, .tab DE Km)
structure FQ (X : Cx) (la : Addr) (ns : List Int) : Prop where
 kx : (KK X.w.params).In X.h₀
 gg : AA X GG
 bm : ∀ h : Heap, (∀ b o, X.h₀.get? b = some o → h.get? b = some o) → (aTab : Addr) ≠ mainGlobals → h.BuiltinsAt X.mg aTab
 lst : ∃ vs : List Value, X.h₀.IsList la vs.toArray ∧ IntsAre vs ns
 len : ns.length ≤ 63
theorem Px (KX : (KK X.w.params).In X.h₀) (hb : ∀ x : Str, x ≠ "__name__" → X.mb x = bootBuiltins x) : AA X GG := by
 have hall : ∀ q ∈ GG, Da X q.1 q.2 := by
  unfold GG
  repeat (refine List.forall_mem_cons.mpr ⟨?_, ?_⟩; first | exact No KX rfl | exact Jt KX hb rfl (by decide +kernel) rfl)
  exact forall_mem_nil _
 exact fun x v hm => hall (x, v) hm
set_option tactic.hygienic true in
theorem Nv (main : ∀ (X : Cx) (la : Addr) (ns : List Int), FQ X la ns → Hc X callerA (.ref K4) [.val (.ref la)] [] [ER] fun p L' => p = .bool true ∧ ER ∈ L') : PySem.Challenge.rw_rs0213_01.Holds := hdB (by
 intro w s0 s1 mg mb G Y fa o pm cd doc dV kV ho hd hcd hD hmg hg args vals as hpre hlay hrd hwl hlo
 have KX := km_in_of Y
 refine Ground.open G ?_
 intro T B D TE TW
 wrow_args hpre hlay hrd hwl hlo
 rename_i ns _ _ _ _ _ _ _ la vs _ hL _ _ _ hI _ hlen _
 refine enter_call ?_
 have hfa := mg_of KX T.g (show nsIn (KK w.params) mainGlobals (ofString "law") = some (some (.ref K4)) from rfl)
 have hfa' : (some (Value.ref fa)) = some (.ref K4) := hmg.symm.trans hfa
 cases hfa'
 have ht : tabIn (KK w.params) (ofString "law") = some (DE, aTab) := rfl
 obtain ⟨hc1, hc2⟩ := tab_of T KX (x := ofString "law") (by rfl) ht
 have hT : TabsAt [(DE, aTab)] s1.heap := fun q hq => by rw [List.mem_singleton.mp hq]; exact ⟨hc1, hc2⟩
 have hTA : s1.heap.TableAt DE aTab #[] := by
  obtain ⟨o, vs, _, _, _, _, _, _, _, h1, h2, h3, h4, _⟩ := hc1
  exact ⟨⟨o, vs, h1, h2, h3, h4⟩, hc2⟩
 have KX' : (KK (I3 PySem.Challenge.rw_rs0213_01.row.prog w s1 mg mb T hT).w.params).In (I3 PySem.Challenge.rw_rs0213_01.row.prog w s1 mg mb T hT).h₀ := ghost_K hT KX (by rfl)
 have hL' : (ghostOf s1.heap [(DE, aTab)]).IsList la vs.toArray := ghost_list hT hL
 have gv : FQ (I3 PySem.Challenge.rw_rs0213_01.row.prog w s1 mg mb T hT) la ns := by
  refine ⟨KX', Px KX' T.builtins, ?_, ⟨vs, hL', hI⟩, by exact Aq 0x3f1150040c3f1146430421 rt hlen⟩
  ·intro h hk hne
   obtain ⟨bm, ob, b1, b2, b3, b4, b5, b6⟩ := T.bmain
   have hbP : bm ≠ aTab := fun q => by
    rw [q, hc2] at b3
    rw [← Option.some.inj b3] at b4
    cases b4
   have hbG : bm ≠ mainGlobals := fun q => by
    obtain ⟨og, es, ep, g1, g2, _⟩ := T.g
    rw [q, g1] at b3
    rw [← Option.some.inj b3, g2] at b6
    cases b6
   exact ⟨bm, ob, b1, b2, hbG, hbP, hk _ _ (hideAll_get _ b3 (by simpa using hbP)), b4, b5, b6⟩
 refine codeAny_mono (main _ la ns gv [] s1 (fun _ _ => False) _ _ (O7 T hT (by decide) hg Km) (.cons (Ic _) .nil) .nil) fun r s' hr => ?_
 cases r with
 | error e => exact hr.elim
 | ok f =>
  cases f with
  | ret v =>
   obtain ⟨p, L', ⟨rfl, hm⟩, P', V', e'⟩ := hr
   rw [BS V']
   exact ⟨.inl ⟨_, _, [], rfl, fun _ => rfl, PySem.W.ReadsW.bool true, (by wrow_post), fun _ => ⟨List.nodup_nil, fun _ hm => (nomatch hm)⟩⟩, Nw T hT hTA P' hm, P'.os, P'.bare⟩
  | _ => exact hr.elim)
section
variable (KX : (KK X.w.params).In X.h₀)
include KX
theorem LW {x : List Nat} (G : AA X GG) (hA : A.depth < recursionLimit) (hs : 0 < size ∧ size < 1000) (hx : x.length ≤ 1000) (hQ : Q (.int (Ej x size)) L) : As X A (.val (.ref aCo)) [.str x, .int size] [] L Q := by
 refine' BE (bs := [(ofString "lead", .str x), (ofString "size", .int size)]) (m₀ := [some (.str x), some (.int size), none, none])
  (KX aCo _ rfl) ?cr (by exact Aa 0x94052808421 rt hA) (Ak (by decide +kernel)) ?bd [ofString "lead", ofString "size"] rfl (by decide +kernel) ?bk ?ini (by decide +kernel) ?_ rfl rfl rfl rfl rfl rfl
 case cr => exact ⟨_, _, _, _, rfl, KX QQ _ rfl, rfl, rfl⟩
 case bk => walk_at "b"
 case ini => walk_at "i"
 case bd =>
  exact JM KX fun v1 v2 S => by with_unfolding_all rfl
 intro env ok hfn hcode hqual
 clear hfn hcode hqual
 dsimp only at ok ⊢
 refine Ab ?_
 left
 obtain ⟨J, hJ⟩ : ∃ J : Nat → QS, ∀ i m' L', J i m' L' ↔ ∃ q : Option PV, m' = [some (.str x), some (.int size), some (.int (Ej (x.take i) size : Nat)), q] ∧ L' = L := ⟨_, fun _ _ _ => Iff.rfl⟩
 refine BM (tg := Ay) trivial (AZ ?_) (fun _ => rfl)
 left
 refine ⟨_, _, .str, trivial, J, (hJ _ _ _).mpr ⟨none, rfl, rfl⟩, ?_, ?_⟩
 ·intro i p m' L' hp hj
  obtain ⟨q, rfl, rfl⟩ := (hJ _ _ _).mp hj
  refine ⟨trivial, ?_⟩
  obtain ⟨c, hxc, rfl⟩ := Dg hp
  have hJ1 := hJ (i + 1)
  rw [take_add_one, hxc] at hJ1
  unfold Ej at hJ1
  rw [foldl_append] at hJ1
  have hq : ∃ q : Nat, q = Ej (x.take i) size := ⟨_, rfl⟩
  obtain ⟨v, hv⟩ := hq
  rw [← hv]
  have hJ2 : ∀ m2 L2, J (i + 1) m2 L2 ↔ ∃ q : Option PV, m2 = [some (.str x), some (.int size), some (.int ((if c = 32 then v + 1 else (v / size + 1) * size : Nat) : Int)), q] ∧ L2 = L' := by
   intro m2 L2
   rw [hJ1, hv]
   rfl
  clear hj hJ1
  right
  left
  ·intro hc
   obtain rfl : c = 32 := by have h : [c] = [32] := hc; simpa using h
   left
   refine (hJ2 _ _).mpr ⟨some (.str [32]), ?_, rfl⟩
   rw [if_pos rfl]; rfl
  ·intro hc
   have hc' : c ≠ 32 := fun h => hc (by rw [h]; rfl)
   left
   refine DI (.inr ⟨by exact Aq 0x103800000000000000034a22200408421 rt hs.1, by exact Aq 0x40000000000000001a540c9f408a808421 rt hs.2⟩) ?_
   left
   refine (hJ2 _ _).mpr ⟨some (.str [c]), ?_, rfl⟩
   rw [if_neg hc']
   simp; rfl
 ·intro m' L' hj
  rw [hJ, show (Bk x).length = x.length by simp [Bk], take_length] at hj
  obtain ⟨q, rfl, rfl⟩ := hj
  refine ⟨trivial, ?_⟩
  left
  exact hQ
theorem Ff {slope : Nat} {tail : List Nat} (G : AA X GG) (hH : A.handled = none) (hA : A.depth < recursionLimit) (l : LV L pm (marks.map AW)) (hm : marks.length ≤ 100) (hs : slope ≤ 10) (hh : hidden.length = 5) (hhl : ∀ y ∈ hidden, y.length ≤ 20) (htl : tail.length ≤ 20)
  (hQ : Q (.str (Bo (marks.map (·.2)) slope hidden tail)) L) : As X A (.val (.ref aTx)) [pm, .int slope, .lst (hidden.map .str), .str tail] [] L Q := by
 refine' BE (bs := [(ofString "marks", pm), (ofString "slope", .int slope), (ofString "hidden", .lst (hidden.map .str)), (ofString "tail", .str tail)]) (m₀ := [some pm, some (.int slope), some (.lst (hidden.map .str)), some (.str tail), none, some (.val (.type "enumerate"))])
  (KX aTx _ rfl) ?cr (by exact Aa 0x94052808421 rt hA) (Ak (by decide +kernel)) ?bd [ofString "marks", ofString "slope", ofString "hidden", ofString "tail"] rfl (by decide +kernel) ?bk ?ini (by decide +kernel) ?_ rfl rfl rfl rfl rfl rfl
 case cr => exact ⟨_, _, _, _, rfl, KX QZ _ rfl, rfl, rfl⟩
 case bk => walk_at "b"
 case ini => walk_at "i"
 case bd =>
  exact Pi KX fun v1 v2 v3 v4 S => by with_unfolding_all rfl
 intro env ok hfn hcode hqual
 clear hfn hcode hqual
 dsimp only at ok ⊢
 refine Ab ?_
 refine Fz (tg := Ay) (fun _ => rfl) (Ak (by decide +kernel)) (En ok (by walk_at "m") rfl (by decide +kernel)) ?_
 refine Bz (tg := Ay) (by walk_at "c") trivial (fun m => ∃ q : Option PV, m = [none, q, some (.int slope)]) ⟨none, rfl⟩ (AZ ?_)
 left
 refine ⟨_, _, .list, l, (CK (marks.map (·.2)) slope).map .str, by simp [CK], l, ?_, ?_, ?_⟩
 ·have : (1000 : Nat) ≤ sizeLine := by decide
  simp [CK]; exact Aa 0x25004fd0228023208a800422 rt hm this
 ·refine AK ?_
  refine AJ (by walk_at "s") (by decide) ?_
  refine Ab ?_
  refine HB ?_
  refine OF ?_
  walk_at "w"
  left
  refine ⟨_, J3 F.slot_str_join F.type_str_join, ?_⟩
  left
  refine Dw (tg := Bx) (fun _ => rfl) (Ak (by decide +kernel)) ?_
  refine Bz (tg := Bx) (by walk_at "c") trivial (fun m => ∃ q1 q2 : Option PV, m = [none, q1, q2, some (.lst (hidden.map .str))]) ⟨none, none, rfl⟩ ?_
  left
  refine Cb hH .lst ?_
  have hz10 : (100000 : Nat) ≤ sizeLine := by decide
  have hsl : ∀ y ∈ CK (marks.map (·.2)) slope, y.length ≤ 10 := fun y hy => by
   unfold CK at hy
   obtain ⟨b, _, rfl⟩ := List.mem_map.mp hy
   split <;> simp; exact Aq 0x28880288800421 rt hs
  have hsn : (CK (marks.map (·.2)) slope).length = marks.length := by simp [CK]
  generalize hsg : CK (marks.map (·.2)) slope = sg at hsl hsn
  have hlen : (sg.zipIdx.map fun x => x.1 ++ hidden.getD (x.2 % 5) []).length = sg.length := by simp
  have hpl : ∀ y ∈ (sg.zipIdx.map fun x => x.1 ++ hidden.getD (x.2 % 5) []), y.length ≤ 30 := fun y hy => by
   obtain ⟨⟨s, j⟩, hx, rfl⟩ := List.mem_map.mp hy
   have h1 := hsl s (List.mem_zipIdx_iff_getElem?.mp hx |> mem_of_getElem?)
   have h2 : (hidden.getD (j % 5) []).length ≤ 20 := by
    rw [getD_eq_getElem?_getD]
    cases q : hidden[j % 5]? with
    | none => simp
    | some z => exact hhl z (mem_of_getElem? q)
   simp only [length_append]; exact Aa 0x3c44a000a11200a88800422 rt h1 h2
  refine ⟨(sg.zipIdx.map fun x => x.1 ++ hidden.getD (x.2 % 5) []).map .str, by simp [BT], .lst, by simp; exact AB 0x95010a105230d40428023208a800423 rt hm hz10 hsn, ?_, ?_⟩
  ·refine AK ?_
   left
   have hsum := D5 hpl
   have hmul : (sg.zipIdx.map fun x => x.1 ++ hidden.getD (x.2 % 5) []).length * 30 ≤ 100 * 30 := mul_le_mul_right _ (by exact AB 0xc822a8095082848823208a800423 rt hm hsn hlen)
   refine Jx .lst (le_trans (le_trans hsum hmul) (le_trans (by decide) hz10)) ?_
   left
   refine FT (by rw [length_flatten]; exact le_trans (Nat.add_le_add (le_trans hsum hmul) htl) (le_trans (by decide) hz10)) ?_
   unfold Bo O3 at hQ
   rw [hsg] at hQ
   exact hQ
  ·rintro cenv cok hc1 hc2 i p q m' hp hq ⟨q1, q2, rfl⟩
   obtain ⟨s, hs1, rfl⟩ := Bl hp
   rw [getElem?_map] at hs1
   obtain ⟨y, hy, rfl⟩ := Option.map_eq_some_iff.mp hs1
   have hi : i < sg.length := (List.getElem?_eq_some_iff.mp hy).1
   have hq' : q = .str (y ++ hidden.getD (i % 5) []) := by
    simp [getElem?_zipIdx, hy] at hq
    exact hq.symm
   subst hq'
   refine AQ ?_ rfl rfl
   right
   right
   refine ⟨rfl, ⟨_, _, rfl⟩, ?_⟩
   have h5 : i % 5 < 5 := mod_lt _ (by decide)
   left
   have e5 : ((i : Int) % 5) = ((i % 5 : Nat) : Int) := rfl
   rw [e5]
   refine Bm .lst (by exact Aq 8690732064 rt) (by exact Aq 0x8000000000000000695032148808421 rt h5) (q := .str (hidden.getD (i % 5) [])) (by rw [toNat_natCast, getElem?_map, getD_eq_getElem?_getD, getElem?_eq_getElem (by exact Aa 0x2121291210948814022 rt hh h5)]; rfl) ?_
   have h1 := hsl y (mem_of_getElem? hy)
   have h2 : (hidden.getD (i % 5) []).length ≤ 20 := by
    rw [getD_eq_getElem?_getD]
    cases q : hidden[i % 5]? with
    | none => simp
    | some z => exact hhl z (mem_of_getElem? q)
   refine FT (by exact AB 0x10a4801422801511200a061a808500423 rt hz10 h1 h2) ?_
   exact ⟨rfl, rfl⟩
 ·rintro cenv cok hc1 hc2 i p q m' hp hq ⟨q', rfl⟩
  rw [getElem?_map] at hp
  obtain ⟨mk, hmk, rfl⟩ := Option.map_eq_some_iff.mp hp
  have hq' : q = .str (if mk.2 then replicate slope 40 else [41]) := by
   simp [CK, hmk] at hq
   exact hq.symm
  subst hq'
  obtain ⟨c, b⟩ := mk
  right
  refine ⟨rfl, ⟨_, rfl⟩, ?_⟩
  left
  refine BV (by decide) (by decide) (q := .str (sgn b)) rfl ?_
  left
  ·intro hb
   have hb' : b = true := by cases b with
    | true => rfl
    | false => exact absurd (show [41] = [40] from hb) (by decide)
   subst hb'
   left
   have hz10 : (100000 : Nat) ≤ sizeLine := by decide
   refine O8 (by exact Aa 0x91a06348c35010a00a88800422 rt hs hz10) (by exact Aq 0x8190000000000000001a510c20 rt) (by rw [toNat_natCast]; show 1 * slope ≤ _; exact Aa 0x9404c048c35010a00a88800422 rt hs hz10) ?_
   refine ⟨rfl, ?_⟩
   rw [if_pos rfl]
   congr 1
   exact NE 40 slope
  ·intro hb
   have hb' : b = false := by cases b with
    | false => rfl
    | true => exact absurd rfl hb
   subst hb'
   left
   exact ⟨rfl, rfl⟩
end
section
variable (KX : (KK X.w.params).In X.h₀)
include KX
theorem KA {signs : List Bool} (G : AA X GG) (hH : A.handled = none) (hA : A.depth < recursionLimit) (hu : A.units + 10 < cLine) (hs : size ≤ 10) (hsl : signs.length ≤ 100)
  (h0 : signs[at0]? = some false) (hno : ∀ j < at0, signs[j]? ≠ some false) (hgrow : ∀ k, ((List.range k).foldl (fun st j => BD signs size st (j + 1)) (at0, replicate at0 0)).2.length ≤ 1000)
  (hQ : ∀ a, Q (.ref a) ((a, .list (An (Fk signs size at0))) :: L)) : As X A (.val (.ref aBk)) [.lst (signs.map fun b => .str (sgn b)), .int size] [] L Q := by
 refine' BE (bs := [(ofString "signs", .lst (signs.map fun b => .str (sgn b))), (ofString "size", .int size)]) (m₀ := [some (.lst (signs.map fun b => .str (sgn b))), some (.int size), none, none, none, none, none, some (.val (.type "range")), some (.val (.builtin "len"))])
  (KX aBk _ rfl) ?cr (by exact Aa 0x94052808421 rt hA) (Ak (by decide +kernel)) ?bd [ofString "signs", ofString "size"] rfl (by decide +kernel) ?bk ?ini (by decide +kernel) ?_ rfl rfl rfl rfl rfl rfl
 case cr => exact ⟨_, _, _, _, rfl, KX QP _ rfl, rfl, rfl⟩
 case bk => walk_at "b"
 case ini => walk_at "i"
 case bd =>
  exact JM KX fun v1 v2 S => by with_unfolding_all rfl
 intro env ok hfn hcode hqual
 clear hfn hcode hqual
 dsimp only at ok ⊢
 have hz10 : (100000 : Nat) ≤ sizeLine := by decide
 have hat : at0 < signs.length := (List.getElem?_eq_some_iff.mp h0).1
 have dof : CO L (signs.map fun b => PV.str (sgn b)) (signs.map fun b => Dt.str (sgn b)) := AV (fun b => .str) signs
 have kd : ∀ x ∈ signs.map (fun b => Dt.str (sgn b)), Ty.str.ok x := fun x hx => by
  obtain ⟨b, _, rfl⟩ := List.mem_map.mp hx; exact ⟨_, rfl⟩
 have hu' : (A.deeper env).units + Ty.str.depth + 1 < cLine := by show A.units + 3 + 0 + 1 < _; exact Aa 0x90900419100000295110008421 rt hu
 have inj : ∀ b : Bool, Dt.str (sgn b) = Dt.str [41] ↔ b = false := fun b => by cases b <;> simp
 refine Ab ?_
 left
 refine ⟨_, BJ F.slot_list_index F.type_list_index .lst, ?_⟩
 left
 refine Nq (T := .str) (d := .str [41]) (j := at0) .lst .str dof ⟨_, rfl⟩ kd hu' (by rw [getElem?_map, h0]; rfl) (fun j hj e => ?_) (by simp; exact Aa 0x9401230d40428023208a800422 rt hsl hz10) ?_
 ·rw [getElem?_map] at e
  cases q : signs[j]? with
  | none => rw [q] at e; cases e
  | some b =>
   rw [q] at e
   have := (inj b).mp (Option.some.inj e)
   subst this
   exact hno j hj q
 left
 refine DP ?_
 left
 refine ⟨by decide, ?_⟩
 left
 refine J5 .lst (by exact Aa 0x10000000000000001a548c8848423208a800422 rt hsl hat) (by exact Aq 0x8190000000000000001a510c20 rt) (by simp; exact AB 0x95010a085230d40428023208a800423 rt hsl hz10 hat) fun a0 => ?_
 have hrep : GX [PV.int 0] ((at0 : Nat) : Int) = An (replicate at0 0) := by
  unfold GX
  rw [toNat_natCast]
  clear hno h0 hgrow hQ hat
  induction at0 with
  | zero => rfl
  | succ k ih => rw [replicate_succ, flatten_cons, ih, replicate_succ]; rfl
 rw [hrep]
 left
 refine BM (tg := Ay) trivial ?_ (fun _ => rfl)
 left
 refine ⟨_, BJ F.slot_list_count F.type_list_count .lst, ?_⟩
 left
 have dof2 : CO ((a0, AO.list (An (replicate at0 0))) :: L) (signs.map fun b => PV.str (sgn b)) (signs.map fun b => Dt.str (sgn b)) := AV (fun b => .str) signs
 refine JP (T := .str) (d := .str [40]) .lst .str dof2 ⟨_, rfl⟩ kd hu' fun f hf => ?_
 have hcnt : (signs.map fun b => Dt.str (sgn b)).countP f = signs.count true := by
  rw [List.countP_map, List.count]
  congr 1
  funext b
  have h1 := hf (Dt.str (sgn b))
  cases b with
  | true => exact h1.mpr rfl
  | false =>
   cases q : f (Dt.str (sgn false)) with
   | false => simp [q]
   | true => exact absurd (h1.mp q) (by simp)
 rw [hcnt]
 have hcl : signs.count true ≤ 100 := le_trans (List.count_le_length ..) hsl
 have hprod : size * signs.count true ≤ 10 * 100 := mul_le_mul hs hcl
 refine DI (.inl ⟨by exact Aq 0x81c0000000000000001a511020 rt, by exact Aq 0x10000000000000000695032288800421 rt hs⟩) ?_
 left
 refine Hk (by omega) (by omega) (by omega) (l11 0x200000000000000034a12500440e8508c822a8c800422 rt hprod (Int.natCast_mul size (signs.count true)).symm) ?_
 have hN : ((size : Int) * (signs.count true : Nat) + 1 - 1).toNat = size * signs.count true := by
  have : (size : Int) * (signs.count true : Nat) = ((size * signs.count true : Nat) : Int) := by push_cast; rfl
  rw [this]; exact GH 0x94082409123005032c021 rt (toNat_of_nonneg (Aq 0x1204881802020c20 rt))
 rw [hN]
 unfold Fk at hQ
 generalize size * signs.count true = N at hQ
 obtain ⟨J, hJ⟩ : ∃ J : Nat → QS, ∀ k m' L', J k m' L' ↔ ∃ (a : Addr) (q4 q5 q6 : Option PV), m' = [some (.lst (signs.map fun b => .str (sgn b))), some (.int size), some (.int (((List.range k).foldl (fun st j => BD signs size st (j + 1)) (at0, replicate at0 0)).1 : Nat)), some (.ref a), q4, q5, q6, some (.val (.type "range")), some (.val (.builtin "len"))] ∧
  L' = (a, .list (An ((List.range k).foldl (fun st j => BD signs size st (j + 1)) (at0, replicate at0 0)).2)) :: L := ⟨_, fun _ _ _ => Iff.rfl⟩
 refine ⟨J, (hJ _ _ _).mpr ⟨a0, none, none, none, rfl, rfl⟩, ?_, ?_⟩
 ·intro k p m' L' hp hj
  obtain ⟨a, q4, q5, q6, rfl, rfl⟩ := (hJ _ _ _).mp hj
  refine ⟨trivial, ?_⟩
  obtain ⟨hlt, rfl⟩ := D3 hp
  have hJ1 := hJ (k + 1)
  have hg := hgrow k
  rw [range_succ, foldl_append] at hJ1
  simp only [foldl_cons, foldl_nil] at hJ1
  clear hj hJ
  generalize (List.range k).foldl (fun st j => BD signs size st (j + 1)) (at0, replicate at0 0) = st at hJ1 hg ⊢
  obtain ⟨at1, page⟩ := st
  have ek : ((1 : Int) + (k : Int) * 1) = ((k + 1 : Nat) : Int) := by exact IW 0x48800d0309c2401420 rt
  rw [ek]
  right
  left
  refine Ci ?_
  left
  refine ⟨by simp, fun ag => ?_⟩
  refine AJ (by walk_at "s") (by decide) ?_
  refine Ab ?_
  refine GR (fun m' L' => ∃ (q6 : Option PV), m' = [some (.lst (signs.map fun b => .str (sgn b))), some (.int size), some (.int ((BD signs size (at1, page) (k + 1)).1 : Nat)), some (.ref a), some (.int ((k + 1 : Nat) : Int)), some (.ref ag), q6, some (.val (.type "range")), some (.val (.builtin "len"))] ∧
   L' = (ag, .list (An (BD signs size (at1, page) (k + 1)).2)) :: (a, .list (An page)) :: L) ?_ ?_
  ·refine BM (tg := Ay) trivial (AZ ?_) (fun _ => rfl)
   left
   unfold BD
   obtain ⟨J2, hJ2⟩ : ∃ J2 : Nat → QS, ∀ i m' L', J2 i m' L' ↔ ∃ (q6 : Option PV), m' = [some (.lst (signs.map fun b => .str (sgn b))), some (.int size), some (.int (((page.take i).foldl (AD signs size (k + 1)) (at1, [])).1 : Nat)), some (.ref a), some (.int ((k + 1 : Nat) : Int)), some (.ref ag), q6, some (.val (.type "range")), some (.val (.builtin "len"))] ∧
    L' = (ag, .list (An ((page.take i).foldl (AD signs size (k + 1)) (at1, [])).2)) :: (a, .list (An page)) :: L := ⟨_, fun _ _ _ => Iff.rfl⟩
   refine ⟨An page, _, .list, .ref (.tail _ (.head _)), J2, (hJ2 _ _ _).mpr ⟨_, rfl, rfl⟩, ?_, ?_⟩
   ·intro i p m' L' hp hj
    obtain ⟨q6, rfl, rfl⟩ := (hJ2 _ _ _).mp hj
    refine ⟨.ref (.tail _ (.head _)), ?_⟩
    rw [getElem?_map] at hp
    obtain ⟨dpt, hd, rfl⟩ := Option.map_eq_some_iff.mp hp
    have hJ3 := hJ2 (i + 1)
    have hbl := Io (signs := signs) (size := size) (col := k + 1) hsl (page.take i) (at1, [])
    have hti : (page.take i).length ≤ 1000 := by rw [length_take]; exact le_trans (min_le_right _ _) hg
    rw [take_add_one, hd, foldl_append] at hJ3
    simp only [Option.toList_some, foldl_cons, foldl_nil] at hJ3
    clear hj hJ2
    generalize (page.take i).foldl (AD signs size (k + 1)) (at1, []) = st at hJ3 hbl ⊢
    obtain ⟨at2, g⟩ := st
    have hgl : g.length ≤ 102000 := by
     simp only [length_nil, zero_add] at hbl
     omega
    right
    left
    refine ⟨_, BJ F.slot_list_append rfl (.ref (.head _)), ?_⟩
    left
    have hz20 : (1000000 : Nat) ≤ sizeLine := by decide
    refine BR .here (by simp; exact Aa 0x25004fa12010a008c73810a800422 rt hgl hz20) ⟨rfl, ?_⟩
    refine Ab (Oh (Na rfl ?_))
    left
    ·intro hge
     left
     ·intro hlt2
      have hc : k + 1 ≤ dpt + size ∧ dpt < k + 1 := ⟨by exact AB 0x12a004880014348c244006118421 rt hge, by exact Aa 0x1224080848900d0320421 rt hlt2⟩
      have hs3 : AD signs size (k + 1) (at2, g) dpt = (at2 + 1 + ((signs.drop (at2 + 1)).takeWhile id).length, g ++ [dpt] ++ replicate ((signs.drop (at2 + 1)).takeWhile id).length (k + 1)) := by
       unfold AD; rw [if_pos hc]
      rw [hs3] at hJ3
      have htw := fun j => Oe (l := signs.drop (at2 + 1)) (j := j)
      have hte := MQ (signs.drop (at2 + 1))
      have hKl : ((signs.drop (at2 + 1)).takeWhile id).length ≤ 100 := le_trans (List.takeWhile_prefix id).length_le (by rw [length_drop]; exact Aa 0xc822a40848023208a800422 rt hsl (sub_le _ _))
      generalize ((signs.drop (at2 + 1)).takeWhile id).length = K at hJ3 htw hte hKl
      left
      refine IS (fun n m' L' => ∃ j : Nat, j ≤ K ∧ n = K - j ∧ m' = [some (.lst (signs.map fun b => .str (sgn b))), some (.int size), some (.int ((at2 + 1 + j : Nat) : Int)), some (.ref a), some (.int ((k + 1 : Nat) : Int)), some (.ref ag), some (.int (dpt : Nat)), some (.val (.type "range")), some (.val (.builtin "len"))] ∧
       L' = (ag, .list (An (g ++ [dpt] ++ replicate j (k + 1)))) :: (a, .list (An page)) :: L) K ⟨0, zero_le _, rfl, by simp; rfl, by simp⟩ ?_
      rintro n m' L' ⟨j, hj, rfl, rfl, rfl⟩
      refine Lj (OL ?_)
      left
      refine Dm .lst (by simp; exact Aq 0x20000000000000001a540c83208a800421 rt hsl) ?_
      left
      ·intro hl
       have hl' : at2 + 1 + j < signs.length := by simp at hl; exact AB 0x149091000054348c2440c0020421 rt hl
       left
       refine Bm .lst (by exact Aa 0x484880006020c20 rt) (by exact AB 0x800000000000000069541224001910a0912000423208a800422 rt hsl hl') (q := .str (sgn signs[at2 + 1 + j])) (by rw [toNat_natCast, getElem?_map, getElem?_eq_getElem hl']; rfl) ?_
       left
       ·intro hb
        have hb' : signs[at2 + 1 + j] = true := by
         cases q : signs[at2 + 1 + j] with
         | true => rfl
         | false => rw [q] at hb; exact absurd (show [41] = [40] from hb) (by decide)
        have hjK : j < K := by
         rcases lt_or_ge j K with h | h
         ·exact h
         ·have : j = K := by exact le_antisymm (Aa 0x94012800421 rt hj) (Aa 0x94012800421 rt h)
          subst this
          exact absurd (by rw [List.getElem?_drop, getElem?_eq_getElem hl', hb']) hte
        left
        refine ⟨_, BJ F.slot_list_append rfl (.ref (.head _)), ?_⟩
        left
        refine BR .here (by simp; exact B7 0x2424581000296008c822a8014fa12010a008c73810a800424 rt hgl hz20 hKl hj) ⟨rfl, ?_⟩
        left
        refine ⟨_, by exact B7 0x5a02a4ac02828244810010422 rt (sub_add_cancel (Aa 0x484880012808421 rt hjK)) (sub_add_cancel (Aa 0x94012800421 rt hj)), j + 1, hjK, rfl, ?_, ?_⟩
        ·simp [add_assoc]; rfl
        ·simp [List.replicate_succ']
       ·intro hb
        have hb' : signs[at2 + 1 + j] = false := by
         cases q : signs[at2 + 1 + j] with
         | false => rfl
         | true => rw [q] at hb; exact absurd rfl hb
        have hjK : j = K := by
         rcases lt_or_ge j K with h | h
         ·have := htw j h
          rw [List.getElem?_drop, getElem?_eq_getElem hl', hb'] at this
          cases this
         ·exact le_antisymm (Aa 0x94012800421 rt hj) (Aa 0x94012800421 rt h)
        subst hjK
        left
        exact (hJ3 _ _).mpr ⟨_, rfl, rfl⟩
      ·intro hl
       have hl' : ¬ at2 + 1 + j < signs.length := by simp at hl; exact AB 0x21412240009943091230010318421 rt hl
       have hjK : j = K := by
        rcases lt_or_ge j K with h | h
        ·have := htw j h
         rw [List.getElem?_drop, getElem?_eq_none (by exact AB 0x4848800140524244000130421 rt hl')] at this
         cases this
        ·exact le_antisymm (Aa 0x94012800421 rt hj) (Aa 0x94012800421 rt h)
       subst hjK
       left
       exact (hJ3 _ _).mpr ⟨_, rfl, rfl⟩
     ·intro hlt2
      have hc : ¬ (k + 1 ≤ dpt + size ∧ dpt < k + 1) := fun h => hlt2 (by exact Aa 0x12240340c812240808421 rt h.2)
      have hs3 : AD signs size (k + 1) (at2, g) dpt = (at2, g ++ [dpt]) := by unfold AD; rw [if_neg hc]
      rw [hs3] at hJ3
      left
      exact (hJ3 _ _).mpr ⟨_, rfl, by simp⟩
    ·intro hge
     have hc : ¬ (k + 1 ≤ dpt + size ∧ dpt < k + 1) := fun h => hge (by exact AB 0x12350c24400611a9200910000421 rt h.1)
     have hs3 : AD signs size (k + 1) (at2, g) dpt = (at2, g ++ [dpt]) := by unfold AD; rw [if_neg hc]
     rw [hs3] at hJ3
     left
     exact (hJ3 _ _).mpr ⟨_, rfl, by simp⟩
   ·intro m' L' hj
    rw [hJ2, length_map, take_length] at hj
    obtain ⟨q6, rfl, rfl⟩ := hj
    refine ⟨.ref (.tail _ (.head _)), ?_⟩
    left
    exact ⟨_, rfl, rfl⟩
  ·rintro m' L' ⟨q6, rfl, rfl⟩
   refine Ab ?_
   refine Br rfl ?_
   walk_at "w"
   refine AJ (by walk_at "s") (by decide) ?_
   refine Ie (.there .here) ?_
   left
   exact (hJ1 _ _).mpr ⟨ag, _, _, _, rfl, rfl⟩
 ·intro m' L' hj
  rw [hJ, D4] at hj
  obtain ⟨a, q4, q5, q6, rfl, rfl⟩ := hj
  refine ⟨trivial, ?_⟩
  left
  exact hQ a
end
section
variable (KX : (KK X.w.params).In X.h₀)
include KX
theorem JD {tail : List Nat} (G : AA X GG) (hH : A.handled = none) (hA : A.depth < recursionLimit) (l : LV L pm (marks.map AW)) (hm : marks.length ≤ 100) (hh : hidden.length = 5) (hhl : ∀ y ∈ hidden, y.length ≤ 20) (htl : tail.length ≤ 20)
  (hQ : Q (.lst ((Bg (Bi (marks.map (·.2)) hidden tail)).map fun x => .tup [.int x.1, .str x.2])) L) : As X A (.val (.ref aUn)) [pm, .lst (hidden.map .str), .str tail] [] L Q := by
 refine' BE (bs := [(ofString "marks", pm), (ofString "hidden", .lst (hidden.map .str)), (ofString "tail", .str tail)]) (m₀ := [some pm, some (.lst (hidden.map .str)), some (.str tail), none, none, some (.val (.type "enumerate"))])
  (KX aUn _ rfl) ?cr (by exact Aa 0x94052808421 rt hA) (Ak (by decide +kernel)) ?bd [ofString "marks", ofString "hidden", ofString "tail"] rfl (by decide +kernel) ?bk ?ini (by decide +kernel) ?_ rfl rfl rfl rfl rfl rfl
 case cr => exact ⟨_, _, _, _, rfl, KX Ra _ rfl, rfl, rfl⟩
 case bk => walk_at "b"
 case ini => walk_at "i"
 case bd =>
  exact Ph KX fun v1 v2 v3 S => by with_unfolding_all rfl
 intro env ok hfn hcode hqual
 clear hfn hcode hqual
 dsimp only at ok ⊢
 have hz10 : (100000 : Nat) ≤ sizeLine := by decide
 refine Ab ?_
 refine Br (FK ok (by walk_at "m")) ?_
 refine Dw (tg := Ay) (fun _ => rfl) (Ak (by decide +kernel)) ?_
 refine Bz (tg := Ay) (by walk_at "c") trivial (fun m => ∃ q : Option PV, m = [none, q]) ⟨none, rfl⟩ (AZ ?_)
 left
 refine ⟨_, _, .list, .lst, (CD hidden).map .str, by simp [CD], .lst, by simp [CD]; exact Aa 0x250048c35010a00948810422 rt hh hz10, ?_, ?_⟩
 ·refine AK ?_
  left
  refine Br (FK ok (by walk_at "m")) ?_
  have hll : (CD hidden).length = 5 := by simp [CD, hh]
  have hlb : ∀ y ∈ CD hidden, y.length ≤ 20 := fun y hy => by
   unfold CD at hy
   obtain ⟨z, hz, rfl⟩ := List.mem_map.mp hy
   split
   ·exact hhl z hz
   ·simp
  unfold Bi at hQ
  generalize CD hidden = lfl at hll hlb hQ
  generalize hbs : (marks.map (·.2)).zipIdx = bs at hQ
  have hbl : bs.length = marks.length := by rw [← hbs]; simp
  have hub : ∀ bs' : List (Bool × Nat), (AY lfl bs').length ≤ bs'.length * 2 := fun bs' => by
   unfold AY
   induction bs' with
   | nil => simp
   | cons b bs' ih =>
    have h2 : ([sgn b.1, lfl.getD (b.2 % 5) []].filter fun y => decide (y ≠ [])).length ≤ 2 := length_filter_le _ _
    simp only [flatMap_cons, length_append, length_cons]
    exact AB 0x489008e85000222801488e800422 rt ih h2
  refine OG (tg := Bx) (fun _ => rfl) (Ak (by decide +kernel)) ?_
  refine ⟨[none, none, none, none, some (.lst (lfl.map .str))], by walk_at "c", trivial, ?_⟩
  left
  refine Cb hH l ?_
  obtain ⟨J, hJ⟩ : ∃ J : Nat → AU → Ai → List PV → Prop, ∀ i m' L' x, J i m' L' x ↔ (∃ q1 q2 q3 : Option PV, m' = [none, q1, q2, q3, some (.lst (lfl.map .str))]) ∧ L' = L ∧ x = (AY lfl (bs.take i)).map .str := ⟨_, fun _ _ _ _ => Iff.rfl⟩
  refine ⟨J, (hJ _ _ _ _).mpr ⟨⟨_, _, _, rfl⟩, rfl, rfl⟩, ?_, ?_⟩
  ·intro cenv cok hc1 hc2 i p m' L' x hp hj
   obtain ⟨⟨q1, q2, q3, rfl⟩, rfl, rfl⟩ := (hJ _ _ _ _).mp hj
   refine ⟨l, ?_⟩
   have hJ1 := hJ (i + 1)
   clear hj hJ
   obtain ⟨mp, hmp, rfl⟩ := Bl hp
   rw [getElem?_map] at hmp
   obtain ⟨mk, hmk, rfl⟩ := Option.map_eq_some_iff.mp hmp
   obtain ⟨c, b⟩ := mk
   have hbi : bs[i]? = some (b, i) := by rw [← hbs]; simp [getElem?_zipIdx, hmk]
   have hnext : AY lfl (bs.take (i + 1)) = AY lfl (bs.take i) ++ [sgn b, lfl.getD (i % 5) []].filter (fun y => decide (y ≠ [])) := by
    rw [take_add_one, hbi]
    unfold AY
    simp
   have hacc := hub (bs.take i)
   have hti : (bs.take i).length ≤ 100 := by rw [length_take]; exact AB 0xc822a8095002848823208a800423 rt hm hbl (min_le_right _ _)
   rw [hnext] at hJ1
   generalize AY lfl (bs.take i) = acc at hacc hJ1 ⊢
   refine AQ ?_ rfl rfl
   right
   right
   refine D6 ?_
   refine Fh (tg := Ay) (fun _ => rfl) trivial (AZ ?_)
   have h5 : i % 5 < 5 := mod_lt _ (by decide)
   left
   refine BV (by decide) (by decide) (q := .str (sgn b)) rfl ?_
   left
   have e5 : ((i : Int) % 5) = ((i % 5 : Nat) : Int) := rfl
   rw [e5]
   refine Bm .lst (by exact Aq 8690732064 rt) (by exact Aq 0x8000000000000000695032148808421 rt h5) (q := .str (lfl.getD (i % 5) [])) (by rw [toNat_natCast, getElem?_map, getD_eq_getElem?_getD, getElem?_eq_getElem (by exact Aa 0x2121291210948814022 rt hll h5)]; rfl) ?_
   left
   refine ⟨(by decide : 2 ≤ sizeLine), ?_⟩
   generalize hz : lfl.getD (i % 5) [] = z at hJ1
   obtain ⟨J2, hJ2⟩ : ∃ J : Nat → AU → Ai → List PV → Prop, ∀ j m' L2 x, J j m' L2 x ↔ (∃ q3 : Option PV, m' = [none, some (.int i), some (AW (c, b)), q3, some (.lst (lfl.map .str))]) ∧ L2 = L' ∧ x = (acc ++ ([sgn b, z].take j).filter (fun y => decide (y ≠ []))).map .str := ⟨_, fun _ _ _ _ => Iff.rfl⟩
   refine ⟨_, _, .tup, trivial, J2, (hJ2 _ _ _ _).mpr ⟨⟨_, rfl⟩, rfl, by simp⟩, ?_, ?_⟩
   ·intro j p m' L2 x hp hj
    obtain ⟨⟨q3, rfl⟩, rfl, rfl⟩ := (hJ2 _ _ _ _).mp hj
    refine ⟨trivial, ?_⟩
    have hJ3 := hJ2 (j + 1)
    clear hj
    obtain ⟨u, hu, rfl⟩ : ∃ u, [sgn b, z][j]? = some u ∧ p = .str u := by
     have : ([sgn b, z].map PV.str)[j]? = some p := hp
     rw [getElem?_map] at this
     obtain ⟨u, h1, h2⟩ := Option.map_eq_some_iff.mp this
     exact ⟨u, h1, h2.symm⟩
    rw [take_add_one, hu] at hJ3
    right
    have hfl : ((acc ++ ([sgn b, z].take j).filter (fun y => decide (y ≠ []))).map PV.str).length ≤ sizeLine := by
     have : (([sgn b, z].take j).filter fun y => decide (y ≠ [])).length ≤ 2 := le_trans (length_filter_le _ _) (by rw [length_take]; exact min_le_right _ _)
     rw [length_map, length_append]; exact B7 0x10b5000222c01488ea004641152012061a808500424 rt hz10 hti hacc this
    refine FP ?_
    left
    ·intro hne
     have hne' : u ≠ [] := hne
     refine Cp ?_
     left
     refine ⟨hfl, (hJ3 _ _ _).mpr ⟨⟨_, rfl⟩, rfl, ?_⟩⟩
     simp [hne']
    ·intro hne
     have hne' : u = [] := hne
     refine (hJ3 _ _ _).mpr ⟨⟨_, rfl⟩, rfl, ?_⟩
     simp [hne']
   ·intro m' L2 x hj
    obtain ⟨⟨q3, rfl⟩, rfl, rfl⟩ := (hJ2 _ _ _ _).mp hj
    refine ⟨trivial, (hJ1 _ _ _).mpr ⟨⟨_, _, _, rfl⟩, rfl, ?_⟩⟩
    simp
  ·intro m' L' x hj
   obtain ⟨⟨q1, q2, q3, rfl⟩, rfl, rfl⟩ := (hJ _ _ _ _).mp hj
   refine ⟨l, JT fun D => ?_⟩
   rw [show (BT (marks.map AW)).length = bs.length by rw [Cd]; simp [hbl], take_length]
   have hul := hub bs
   left
   refine ⟨_, BJ F.slot_list_extend F.type_list_extend (.ref (.head _)), ?_⟩
   left
   refine Md hH .here (by simp; exact FE 0x1496000b11d800a16212861a80850068448023208a800825 rt hm htl hz10 hbl hul) ⟨rfl, ?_⟩
   rw [show (AY lfl bs).map PV.str ++ Bk tail = (AY lfl bs ++ tail.map fun c => [c]).map PV.str by simp [Bk]]
   have hsl : ∀ y ∈ AY lfl bs ++ tail.map (fun c => [c]), y.length ≤ 20 := fun y hy => by
    rcases List.mem_append.mp hy with q | q
    ·unfold AY at q
     obtain ⟨⟨b, j⟩, _, hq⟩ := List.mem_flatMap.mp q
     have := (List.mem_filter.mp hq).1
     rcases List.mem_cons.mp this with r | r
     ·rw [r]
      cases b with
      | true => exact (by decide : (sgn true).length ≤ 20)
      | false => exact (by decide : (sgn false).length ≤ 20)
     ·rw [List.mem_singleton.mp r, getD_eq_getElem?_getD]
      cases z : lfl[j % 5]? with
      | none => simp
      | some w => exact hlb w (mem_of_getElem? z)
    ·obtain ⟨c, _, rfl⟩ := List.mem_map.mp q
     simp
   have hun : (AY lfl bs ++ tail.map fun c => [c]).length ≤ 300 := by rw [length_append, length_map]; exact B7 0x4b0454ac00508eb0050a10a8448023208a800824 rt hm htl hbl hul
   generalize AY lfl bs ++ tail.map (fun c => [c]) = us at hsl hun hQ
   refine Ab ?_
   refine HB ?_
   refine WE.drop (WE.mono (Q := fun p L1 => L1 = (D, .list (us.map .str)) :: L' ∧ p = .lst ((Bg us).map fun x => .tup [.int x.1, .str x.2])) ?_ ?_)
   ·refine Dw (tg := Bx) (fun _ => rfl) (Ak (by decide +kernel)) ?_
    refine Bz (tg := Bx) (by walk_at "c") trivial (fun m => ∃ q1 q2 : Option PV, m = [none, q1, q2, some (.val (.builtin "len")), some (.ref D)]) ⟨none, none, rfl⟩ ?_
    left
    refine Cb hH (.ref (.head _)) ?_
    refine ⟨(Bg us).map fun x => .tup [.int x.1, .str x.2], by simp [Bg, BT], .ref (.head _), by simp [Bg]; exact Aa 0x84812c115200a061a808500422 rt hz10 hun, AK ⟨rfl, rfl⟩, ?_⟩
    rintro cenv cok hc1 hc2 i p q m' hp hq ⟨q1, q2, rfl⟩
    obtain ⟨up, hup, rfl⟩ := Bl hp
    rw [getElem?_map] at hup
    obtain ⟨u, hu, rfl⟩ := Option.map_eq_some_iff.mp hup
    have hq' : q = .tup [.int (((us.take (i + 1)).flatten.length : Int) - 1), .str u] := by
     simp only [Bg, getElem?_map, getElem?_zipIdx, hu, map_some, zero_add, Option.some.injEq] at hq
     exact hq.symm
    subst hq'
    refine AQ ?_ rfl rfl
    right
    right
    refine ⟨rfl, ⟨_, _, rfl⟩, ?_⟩
    left
    refine ⟨_, J3 F.slot_str_join F.type_str_join, ?_⟩
    left
    refine ⟨((i + 1 : Nat) : Int), by simp, ?_⟩
    left
    refine Bb (.ref (.head _)) (by simp; exact Aa 0x84812c115200a061a808500422 rt hz10 hun) nofun ?_
    rw [Cv, ← map_take]
    left
    have hsum := D5 (l := us.take (i + 1)) (n := 20) fun y hy => hsl y (mem_of_mem_take hy)
    have hmul : (us.take (i + 1)).length * 20 ≤ 300 * 20 := mul_le_mul_right _ (by rw [length_take]; exact Aa 0x25822a40848029608a800422 rt hun (min_le_right _ _))
    refine Jx .lst (by omega) ?_
    left
    refine I5 ?_
    left
    exact ⟨(by decide : 2 ≤ sizeLine), rfl, rfl⟩
   ·rintro p L1 ⟨rfl, rfl⟩
    exact ⟨_, _, _, .here, hQ⟩
 ·rintro cenv cok hc1 hc2 i p q m' hp hq ⟨q', rfl⟩
  rw [getElem?_map] at hp
  obtain ⟨y, hy, rfl⟩ := Option.map_eq_some_iff.mp hp
  have hq' : q = .str (if y.take 1 = [92] then y else []) := by
   simp [CD, hy] at hq
   rw [← hq]
  subst hq'
  right
  refine ⟨rfl, ⟨_, rfl⟩, ?_⟩
  left
  refine ⟨1, rfl, ?_⟩
  left
  refine FN ?_
  rw [MH]
  left
  ·intro hb
   left
   rw [if_pos (show y.take 1 = [92] from hb)]
   exact ⟨rfl, rfl⟩
  ·intro hb
   left
   rw [if_neg (show ¬ y.take 1 = [92] from hb)]
   exact ⟨rfl, rfl⟩
end
def mL0 (x42 x41 x40 x39 x38 x37 x36 x35 x34 x33 x32 x31 x30 x29 x28 x27 x26 x25 x24 x23 x22 x21 x20 x19 x18 x17 x16 x15 x14 x13 x12 x11 x10 x9 x8 x7 x6 x5 x4 x3 x2 x1 x0 : Option PV) : AU := x0 :: x1 :: x2 :: x3 :: x4 :: x5 :: x6 :: x7 :: x8 :: x9 :: x10 :: x11 :: x12 :: x13 :: x14 :: x15 :: x16 :: x17 :: x18 :: x19 :: x20 :: x21 :: x22 :: x23 :: x24 :: x25 :: x26 :: x27 :: x28 :: x29 :: x30 :: x31 :: x32 :: x33 :: x34 :: x35 :: x36 :: x37 :: x38 :: x39 :: x40 :: x41 :: x42 :: gT
abbrev mL1 := mL0 none
abbrev mL2 := mL1 none
abbrev mL3 := mL2 none
abbrev mL4 := mL3 none
abbrev mL5 := mL4 none
abbrev mL6 := mL5 none
abbrev mL7 := mL6 none
abbrev mL8 := mL7 none
abbrev mL9 := mL8 none
abbrev Ro := mL9 none
abbrev Rp := Ro none
abbrev Rq := Rp none
abbrev Rr := Rq none
abbrev Qi := Rr none
abbrev Rt := Qi none
abbrev Ru := Rt none
abbrev Qj := Ru none
abbrev Qk := Qj none
abbrev Rv := Qk none
abbrev Ql := Rv none
abbrev Qm := Ql none
abbrev Qo := Qm none
abbrev Rw := Qo none
abbrev Rx := Rw none
abbrev Qp := Rx none
abbrev M4 := Qp none
abbrev Ry := M4 none
abbrev Rz := Ry none
abbrev R0 := Rz none
abbrev R1 := R0 none
abbrev R2 := R1 none
abbrev Qq := R2 none
abbrev R3 := Qq none
abbrev Qs := R3 none
abbrev R4 := Qs none
abbrev Qu := R4 none
abbrev R5 := Qu none
abbrev R6 := R5 none
abbrev R7 := R6 none
abbrev Qw := R7 none
abbrev R8 := Qw none
abbrev Qx := R8 none
def Bj (p : Params) : List Stmt := match (Pf p).fd.body with
 | .stmts b => b
 | _ => []
noncomputable def BU : List Nat := [1708, 120, 122, 61, 62, 124]
def Fp (nums : List Int) : List Nat := BU.zipIdx.map fun x => x.1 + ((pick nums (some x.2) none (some 6)).map fun y => (y % 5040).toNat).sum
def m_a (x42 x41 x40 : Option PV) : AU := Qw x40 x41 x42
section
variable (KX : (KK X.w.params).In X.h₀)
include KX
theorem P9 {ns : List Int} (gv : FQ X la ns) (ok : A8 env BA) (hH : A.handled = none) (hA : A.depth < 900) (hu : A.units < 100)
  (h : WS X A env BA (m_a (some (.val (.ref la))) (some (.lst ((ns.take 60).map .int))) (some (.lst (An (Fp (ns.take 60)))))) (execs ((Bj X.w.params).drop 2) env) L Qn Qr Qb Qc) :
  WS X A env BA (m_a (some (.val (.ref la))) none none) (execs (Bj X.w.params) env) L Qn Qr Qb Qc := by
 obtain ⟨vs, hL, hI⟩ := gv.lst
 have G := gv.gg
 have hz10 : (100000 : Nat) ≤ sizeLine := by decide
 have hlen := gv.len
 refine Ab ?_
 refine Br rfl ?_
 left
 refine ⟨60, rfl, ?_⟩
 left
 refine JB hL hI (by exact Aa 0x84803f115200a061a808500422 rt hz10 hlen) nofun ?_
 rw [show (some (60 : Int)) = some ((60 : Nat) : Int) from rfl, Cv]
 generalize hnu : ns.take 60 = nums at h ⊢
 have hnl : nums.length ≤ 60 := by rw [← hnu, length_take]; exact Aq 0x7822a001e08a800421 rt (min_le_left _ _)
 refine AJ (by walk_at "s") (by decide) ?_
 refine Ab ?_
 refine Fz (tg := Bx) (fun _ => rfl) (Ak (by decide +kernel)) (En ok (by walk_at "m") rfl (by decide +kernel)) ?_
 refine Bz (tg := Bx) (by walk_at "c") trivial (fun m => ∃ q1 q2 : Option PV, m = [none, q1, q2, some (.val (.builtin "sum")), some (.lst (nums.map .int))]) ⟨none, none, rfl⟩ ?_
 left
 refine ⟨(by decide : 6 ≤ sizeLine), ?_⟩
 left
 refine KD hH ?_
 refine ⟨An (Fp nums), by simp [Fp, BU, BT], trivial, by simp [Fp, BU]; exact Aq 0x20c402061a808500421 rt hz10, AK ?_, ?_⟩
 ·refine AJ (by walk_at "s") (by decide) ?_
  exact h
 ·rintro cenv cok hc1 hc2 i p q m' hp hq ⟨q1, q2, rfl⟩
  obtain ⟨fp, hfp, rfl⟩ := Bl hp
  obtain ⟨f, hf, rfl⟩ : ∃ f : Nat, BU[i]? = some f ∧ fp = .int f := by
   have : (An BU)[i]? = some fp := hfp
   rw [getElem?_map] at this
   obtain ⟨f, h1, h2⟩ := Option.map_eq_some_iff.mp this
   exact ⟨f, h1, h2.symm⟩
  have hq' : q = .int ((f + ((pick nums (some (i : Int)) none (some 6)).map fun y => (y % 5040).toNat).sum : Nat) : Int) := by
   simp only [Fp, getElem?_map, getElem?_zipIdx, hf, map_some, zero_add, Option.some.injEq] at hq
   exact hq.symm
  subst hq'
  have hpl : (pick nums (some (i : Int)) none (some 6)).length ≤ 60 := le_trans (DJ _ _ _ _) hnl
  refine AQ ?_ rfl rfl
  right
  right
  refine ⟨rfl, ⟨_, _, rfl⟩, ?_⟩
  left
  refine Dw (tg := Ay) (fun _ => rfl) (Ak (by decide +kernel)) ?_
  refine Bz (tg := Ay) (by walk_at "c") trivial (fun m => ∃ q1 : Option PV, m = [none, q1]) ⟨none, rfl⟩ (AZ ?_)
  left
  refine ⟨_, rfl, ?_⟩
  left
  refine ⟨_, rfl, ?_⟩
  refine Bb .lst (by simp; exact Aa 0x84803c115200a061a808500422 rt hz10 hnl) nofun ?_
  rw [Bf]
  generalize pick nums (some (i : Int)) none (some 6) = vals at hpl ⊢
  refine ⟨_, _, .list, .lst, (vals.map fun y => y % 5040).map .int, by simp, .lst, by simp; exact Aa 0x84803c115200a061a808500422 rt hz10 hpl, AK ?_, ?_⟩
  ·left
   refine H7 hH .lst (N7 vals (by exact Aq 0x7d022a001e08a800421 rt hpl)) ?_
   left
   refine ⟨rfl, ?_⟩
   rw [Kd]
   simp
  ·rintro cenv2 cok2 hd1 hd2 j p q m' hp hq ⟨q3, rfl⟩
   rw [getElem?_map] at hp
   obtain ⟨y, hy, rfl⟩ := Option.map_eq_some_iff.mp hp
   have hq' : q = .int (y % 5040) := by
    simp [hy] at hq
    exact hq.symm
   subst hq'
   right
   refine ⟨rfl, ⟨_, rfl⟩, ?_⟩
   left
   exact ⟨rfl, rfl⟩
end
theorem Mm {x k : Int} (h : 0 < k) (h2 : k ≤ 2 ^ 63) : x % k < 2 ^ 63 := Int.lt_of_lt_of_le (Int.emod_lt_of_pos x h) h2
def m_b (x42 x41 x40 x39 x38 x37 x36 : Option PV) : AU := Qu x36 x37 x38 x39 x40 x41 x42
section
variable (KX : (KK X.w.params).In X.h₀)
include KX
abbrev StL (L : Ai) (a : Addr) (ls : List (List Nat)) : Ai := (a, .list (ls.map .str)) :: L
theorem PA {d1 d2 d3 d4 d5 : Nat} (G : AA X GG) (ok : A8 env BA) (hH : A.handled = none) (hA : A.depth < 900) (hu : A.units < 100) (hnl : nums.length ≤ 60)
  (hd : ∀ v ∈ [d0, d1, d2, d3, d4, d5], v ≤ 400000)
  (h : ∀ (a : Addr) (q1 q2 : Option PV), WS X A env BA (m_b (some (.val (.ref la))) (some (.lst (nums.map .int))) (some (.lst (An [d0, d1, d2, d3, d4, d5]))) (some (.int (1 + d0 % 3 : Nat))) (some (.ref a)) q1 q2) (execs ((Bj X.w.params).drop 5) env) (StL L a (Ba d0 ([d1, d2, d3, d4, d5].take (4 + nums.length % 2)))) Qn Qr Qb Qc) :
  WS X A env BA (m_b (some (.val (.ref la))) (some (.lst (nums.map .int))) (some (.lst (An [d0, d1, d2, d3, d4, d5]))) none none none none) (execs ((Bj X.w.params).drop 2) env) L Qn Qr Qb Qc := by
 have hz10 : (100000 : Nat) ≤ sizeLine := by decide
 refine Ab ?_
 left
 refine Bm (k := 0) .lst (by exact Cs 134351904 rt) (by exact Cs 0x400000000000000034a021020 rt) (q := .int d0) rfl ?_
 left
 refine Ci ?_
 left
 refine ⟨(by decide : 6 ≤ sizeLine), ?_⟩
 left
 refine Bm (k := 0) .lst (by exact Cs 134351904 rt) (by exact Cs 0x400000000000000034a021020 rt) (q := .int d0) rfl ?_
 left
 have e36 : ((d0 : Int) / 3 % 6).toNat = d0 / 3 % 6 := rfl
 refine BV (q := .str (BN d0)) (emod_nonneg _ (by decide)) (Mm (by decide) (by decide)) (by
  rw [e36]
  unfold BN
  have hk : d0 / 3 % 6 < 6 := mod_lt _ (by decide)
  generalize d0 / 3 % 6 = k at hk
  rcases k with _ | _ | _ | _ | _ | _ | k
  ·rfl
  ·rfl
  ·rfl
  ·rfl
  ·rfl
  ·rfl
  ·exact absurd hk (Nat.not_lt.mpr (Nat.le_add_left 6 k))) ?_
 left
 refine ⟨(by decide : 1 ≤ sizeLine), fun al => ?_⟩
 refine AJ (by walk_at "s") (by decide) ?_
 refine Ab ?_
 refine BM (tg := Ay) trivial ?_ (fun _ => rfl)
 refine AZ ?_
 left
 refine ⟨_, rfl, ?_⟩
 left
 refine Dm (ps := nums.map .int) .lst (by simp; exact Aq 0x20000000000000001a540c81e08a800421 rt hnl) ?_
 left
 refine ⟨_, rfl, ?_⟩
 left
 have epk : pick (An [d0, d1, d2, d3, d4, d5]) (some 1) (some (5 + ((nums.map PV.int).length : Int) % 2)) none = An ([d1, d2, d3, d4, d5].take (4 + nums.length % 2)) := by
  rw [length_map, show (some (1 : Int)) = some ((1 : Nat) : Int) from rfl, show (some (5 + (nums.length : Int) % 2)) = some ((5 + nums.length % 2 : Nat) : Int) from rfl, II]
  rcases Nat.mod_two_eq_zero_or_one nums.length with e | e <;> rw [e] <;> rfl
 refine Bb .lst (by simp; exact Aq 0x20c402061a808500421 rt hz10) nofun ?_
 rw [epk]
 have hvs : ∀ v ∈ [d1, d2, d3, d4, d5].take (4 + nums.length % 2), v ≤ 400000 := fun v hv => hd v (.tail _ (mem_of_mem_take hv))
 have hvl : ([d1, d2, d3, d4, d5].take (4 + nums.length % 2)).length ≤ 5 := by rw [length_take]; exact min_le_right _ _
 generalize hvv : [d1, d2, d3, d4, d5].take (4 + nums.length % 2) = vs at h hvs hvl
 obtain ⟨J, hJ⟩ : ∃ J : Nat → QS, ∀ i m' L', J i m' L' ↔ ∃ q1 q2 : Option PV, m' = (m_b (some (.val (.ref la))) (some (.lst (nums.map .int))) (some (.lst (An [d0, d1, d2, d3, d4, d5]))) (some (.int (1 + d0 % 3 : Nat))) (some (.ref al)) q1 q2) ∧ L' = StL L al (Ba d0 (vs.take i)) := ⟨_, fun _ _ _ => Iff.rfl⟩
 refine ⟨An vs, _, .list, .lst, J, (hJ _ _ _).mpr ⟨none, none, rfl, rfl⟩, ?_, ?_⟩
 ·intro i p m' L' hp hj
  obtain ⟨q1, q2, rfl, rfl⟩ := (hJ _ _ _).mp hj
  refine ⟨.lst, ?_⟩
  rw [getElem?_map] at hp
  obtain ⟨v, hv, rfl⟩ := Option.map_eq_some_iff.mp hp
  have hv4 := hvs v (mem_of_getElem? hv)
  have hJ1 := hJ (i + 1)
  have lo := DX d0 (vs.take i)
  have ll := Ex d0 (vs.take i)
  rw [take_add_one, hv] at hJ1
  unfold Ba at hJ1
  rw [foldl_append] at hJ1
  change ∀ m' L', _ ↔ ∃ q1 q2 : Option PV, _ ∧ L' = StL L al (Bq (BN d0).length (Ba d0 (vs.take i)) v) at hJ1
  have hll : (Ba d0 (vs.take i)).length ≤ 6 := by rw [ll, length_take]; exact Aa 0xc409120021200948800422 rt hvl (min_le_right _ _)
  clear hj hJ
  generalize Ba d0 (vs.take i) = ls at hJ1 lo hll ⊢
  obtain ⟨h1, h2, h3⟩ := lo.ok _ (Fd lo.ne)
  have hps : 0 < ls.length := List.length_pos_iff.mpr lo.ne
  right
  left
  have lg := Mu lo.ne
  refine Gy (k := -1) (.ref (.head _)) (by exact Cs 4332785696 rt) (by simp; exact Aq 0x40c241a00408421 rt hps) (by exact Cs 0x24120000000000000001a510c20 rt) lg ?_
  left
  refine I5 ?_
  left
  refine Gy (k := -1) (.ref (.head _)) (by exact Cs 4332785696 rt) (by simp; exact Aq 0x40c241a00408421 rt hps) (by exact Cs 0x24120000000000000001a510c20 rt) lg ?_
  left
  refine I5 ?_
  left
  have hd0 : (ls.map PV.str)[(0 : Int).toNat]? = some (.str (BN d0)) := by
   have := lo.hd
   rw [List.head?_eq_getElem?] at this
   rw [show (0 : Int).toNat = 0 from rfl, getElem?_map, this]; rfl
  refine Bm (k := 0) (.ref (.head _)) (by exact Cs 134351904 rt) (by exact Cs 0x400000000000000034a021020 rt) hd0 ?_
  left
  refine I5 ?_
  left
  have ekeep : ((B6 ls).length : Int) - (v : Int) % (((B6 ls).length : Int) - ((BN d0).length : Int) + 1) = ((EE (BN d0).length (B6 ls) v : Nat) : Int) := by
   have e1 : ((B6 ls).length : Int) - ((BN d0).length : Int) + 1 = (((B6 ls).length - (BN d0).length + 1 : Nat) : Int) := by exact Ez 0x24400612246a184055250010421 rt (sub_add_cancel (Aa 0x94012800421 rt h1))
   have hm := mod_lt v (show 0 < (B6 ls).length - (BN d0).length + 1 by exact AB 0x914001021228030910348c202852800422 rt h1 e1)
   rw [e1, ← Int.natCast_emod]
   unfold EE
   exact Ez 0x40d2350c255250010421 rt (sub_add_cancel (B7 0x21600914058421228030912340c202c022 rt e1 hm))
  rw [ekeep]
  refine ⟨_, BJ F.slot_list_append rfl (.ref (.head _)), ?_⟩
  left
  refine Gy (k := -1) (.ref (.head _)) (by exact Cs 4332785696 rt) (by simp; exact Aq 0x40c241a00408421 rt hps) (by exact Cs 0x24120000000000000001a510c20 rt) lg ?_
  left
  refine ⟨_, rfl, ?_⟩
  left
  refine FN ?_
  rw [Cv]
  left
  refine ⟨(by decide : 3 ≤ sizeLine), ?_⟩
  left
  have eex : ((v : Int) / 60 % 3).toNat = v / 60 % 3 := rfl
  refine BV (q := .str (ED.getD (v / 60 % 3) [])) (emod_nonneg _ (by decide)) (Mm (by decide) (by decide)) (by
   rw [eex]
   have hk : v / 60 % 3 < 3 := mod_lt _ (by decide)
   generalize v / 60 % 3 = k at hk
   rcases k with _ | _ | _ | k
   ·rfl
   ·rfl
   ·rfl
   ·exact absurd hk (Nat.not_lt.mpr (Nat.le_add_left 3 k))) ?_
  left
  have hex := (HK v).1
  refine FT (by rw [length_take]; exact FE 0x85b00053001091600a4a402801311200a061a808500425 rt hz10 hll h2 hex (min_le_right _ _)) ?_
  left
  refine BR .here (by simp; exact Aa 0x2120311200a061a808500422 rt hz10 hll) ?_
  refine ⟨rfl, ?_⟩
  refine AC ?_
  refine (hJ1 _ _).mpr ⟨_, _, rfl, ?_⟩
  simp [Bq]
 ·intro m' L' hj
  rw [hJ] at hj
  obtain ⟨q1, q2, rfl, rfl⟩ := hj
  refine ⟨.lst, ?_⟩
  rw [show (An vs).length = vs.length by simp, take_length]
  exact AC (h al q1 q2)
end
theorem Mq (KX : K.In X.h₀) (h : keepIn K (.ref a) = true) : Bw X (.val (.ref a)) := fun H Z L s fv P V => by
 apply AI V
 obtain ⟨k, hk, l⟩ := looks_keep h (KX.keeps P.keep)
 exact ⟨k, by rcases hk with e | e; exact .inl e; exact .inr (.inl e), l⟩
def m_c (x40 x39 x38 x35 x34 : Option PV) : AU := Qs x34 x35 none none x38 x39 x40 none none
section
variable (KX : (KK X.w.params).In X.h₀)
include KX
theorem PB (G : AA X GG) (ok : A8 env BA) (hH : A.handled = none) (hA : A.depth < 900) (hu : A.units < 100)
  (hs : 0 < size ∧ size ≤ 3) (lo : Ca x0 ls) (hl : ls.length ≤ 6)
  (h : WS X A env BA (m_c (some (.lst dr)) (some (.int size)) (some (.ref al)) (some (.lst (An (CA size ls)))) (some (.lst (An (CA size ls))))) (execs ((Bj X.w.params).drop 8) env) (StL L al ls) Qn Qr Qb Qc) :
  WS X A env BA (m_c (some (.lst dr)) (some (.int size)) (some (.ref al)) none none) (execs ((Bj X.w.params).drop 5) env) (StL L al ls) Qn Qr Qb Qc := by
 have hz10 : (100000 : Nat) ≤ sizeLine := by decide
 have hx : ∀ x ∈ ls, x.length ≤ 11 ∧ Wht x := fun x hx => by
  obtain ⟨a, b, c⟩ := lo.ok x hx
  exact ⟨by exact Aa 0x16448105201200988800422 rt hl b, c⟩
 refine Ab ?_
 refine Br (FK ok (by walk_at "m")) (Dw (tg := Ay) (fun _ => rfl) (Ak (by decide +kernel)) ?_)
 refine Bz (tg := Ay) (by walk_at "c") trivial (fun m => ∃ q : Option PV, m = [none, q, some (.val (.ref aCo)), some (.int size)]) ⟨none, rfl⟩ (AZ ?_)
 left
 refine ⟨_, _, .list, .ref (.head _), An (CA size ls), by simp [CA], .ref (.head _), ?_, AK ?_, ?_⟩
 ·simp [CA]; exact Aa 0x250048c35010a00988800422 rt hl hz10
 ·refine AJ (by walk_at "s") (by decide) ?_
  refine Ab ?_
  refine Fz (tg := Ay) (fun _ => rfl) (Ak (by decide +kernel)) (En ok (by walk_at "m") rfl (by decide +kernel)) ?_
  refine Bz (tg := Ay) (by walk_at "c") trivial (fun m => ∃ q : Option PV, m = [none, q, some (.val (.ref aWs)), some (.int size)]) ⟨none, rfl⟩ (AZ ?_)
  left
  refine ⟨_, _, .list, .ref (.head _), An (CA size ls), by simp [CA], .ref (.head _), ?_, AK ?_, ?_⟩
  ·simp [CA]; exact Aa 0x250048c35010a00988800422 rt hl hz10
  ·refine AJ (by walk_at "s") (by decide) ?_
   left
   refine Fn (T := .int) (ps := An (CA size ls)) (qs := An (CA size ls)) (ds := (CA size ls).map fun n : Nat => Dt.int n) (es := (CA size ls).map fun n : Nat => Dt.int n) .lst .lst (AV (fun n => .int) _) (AV (fun n => .int) _) ?_ ?_ ?_ ?_ ?_
   ·intro x hx; obtain ⟨n, _, rfl⟩ := List.mem_map.mp hx; exact ⟨_, rfl⟩
   ·intro x hx; obtain ⟨n, _, rfl⟩ := List.mem_map.mp hx; exact ⟨_, rfl⟩
   ·show A.units + 0 + 1 < cLine
    have : (1000 : Nat) ≤ cLine := by decide
    exact Aa 0x909004400014fd0228023208a808422 rt hu this
   ·intro hne; exact absurd rfl hne
   ·intro _
    exact AC h
  ·rintro cenv cok hc1 hc2 i p q m' hp hq ⟨q3, rfl⟩
   rw [getElem?_map] at hp
   obtain ⟨x, hxi, rfl⟩ := Option.map_eq_some_iff.mp hp
   obtain ⟨hx1, hx2⟩ := hx x (mem_of_getElem? hxi)
   have hq' : q = .int (Ej x size : Nat) := by
    simp [CA, hxi] at hq
    exact hq.symm
   subst hq'
   right
   refine ⟨rfl, ⟨_, rfl⟩, ?_⟩
   left
   refine ⟨Mq KX (by rfl), ?_⟩
   left
   refine FT (by show x.length + 3 ≤ _; exact Aa 0x10322400591200a061a808500422 rt hz10 hx1) ?_
   have e3 : (ofString "x \t").cps.toList = [120, 32, 9] := by decide
   rw [e3]
   left
   refine OJ KX G hH (by show A.depth + 1 < 1000; exact Aq 0x3e8114244003c208a808421 rt hA) (by rw [length_append]; show x.length + 3 ≤ _; exact Aq 0x1f40651910002c8800421 rt hx1) ?_
   left
   refine ⟨_, M6 (f := aLv) KX (by rfl) (by rfl) (by rfl) (by rfl), ?_⟩
   left
   refine Mn KX G hH (by show A.depth < 1000; exact Aq 0x7d022a03c208a808421 rt hA) ⟨hs.1, by exact Aq 0x1f408a808c8800421 rt hs.2⟩ (le_trans (MW _) (by rw [length_append]; show x.length + 3 ≤ _; exact Aq 0x9c40651910002c8800421 rt hx1)) ?_
   exact ⟨rfl, by rw [MP hs.1 x hx2]⟩
 ·rintro cenv cok hc1 hc2 i p q m' hp hq ⟨q3, rfl⟩
  rw [getElem?_map] at hp
  obtain ⟨x, hxi, rfl⟩ := Option.map_eq_some_iff.mp hp
  obtain ⟨hx1, hx2⟩ := hx x (mem_of_getElem? hxi)
  have hq' : q = .int (Ej x size : Nat) := by
   simp [CA, hxi] at hq
   exact hq.symm
  subst hq'
  right
  refine ⟨rfl, ⟨_, rfl⟩, ?_⟩
  left
  refine LW KX G (by show A.depth < 1000; exact Aq 0x7d022a03c208a808421 rt hA) ⟨hs.1, by exact Aq 0x1f408a808c8800421 rt hs.2⟩ (by exact Aq 0x1f408a802c8800421 rt hx1) ?_
  exact ⟨rfl, rfl⟩
end
def m_d (x40 x39 x35 x34 x33 x32 : Option PV) : AU := Qq x32 x33 x34 x35 none none none x39 x40 none none
section
variable (KX : (KK X.w.params).In X.h₀)
include KX
theorem PC  {ns : List Int} (gv : FQ X la ns) (ok : A8 env BA) (hH : A.handled = none) (hA : A.depth < 900) (hu : A.units < 100)
  (hcode : env.code = .ref DE) (hqual : env.qual = ofString "law" ++ ".<locals>.") (hm : ER ∈ L)
  (hs : 0 < size ∧ size ≤ 3) (hl : ds.length ≤ 6)
  (h : ∀ cv, FR X cv → WS X A env BA (m_d (some (.lst dr)) (some (.int size)) pdue (some (.lst (An ds))) (some cv) (some (.lst ((Am size ds).map AW)))) (execs ((Bj X.w.params).drop 10) env) L Qn Qr Qb Qc) :
  WS X A env BA (m_d (some (.lst dr)) (some (.int size)) pdue (some (.lst (An ds))) none none) (execs ((Bj X.w.params).drop 8) env) L Qn Qr Qb Qc := by
 have G := gv.gg
 have hz10 : (100000 : Nat) ≤ sizeLine := by decide
 refine Ab ?_
 refine Br rfl ?_
 refine H8 (c := DE) (P := aTab) (qual := Km) hm hcode (by rw [hqual]; rfl) ok.globals (by decide +kernel) rfl gv.bm ?_
 generalize hcv : PV.lam _ _ _ = cv
 have hcol : FR X cv := by
  refine ⟨⟨_, _, _, hcv.symm⟩, fun A L x s Q hA hQ => ?_⟩
  rw [← hcv]
  refine Iq (bs := [(ofString "mark", .tup [.int x, .str s])]) (m₀ := [some (.tup [.int x, .str s])]) hA (Ak (by decide +kernel)) ?_ [ofString "mark"] rfl (by decide +kernel) (by walk_at "b") (by walk_at "i") (by decide +kernel) rfl rfl ?_
  ·intro qual pm ctv doc c
   exact FY KX fun v1 S => by with_unfolding_all rfl
  ·intro env2 ok2
   left
   refine BV (k := 0) (by decide) (by decide) (q := .int x) rfl hQ
 refine AJ (by walk_at "s") (by decide) ?_
 clear hcv
 refine Ab ?_
 refine MY (tg := Ay) (fun _ => rfl) (Ak (by decide +kernel)) (En ok (by walk_at "m") rfl (by decide +kernel)) ?_
 refine ⟨[none, none, none, some (.val (.type "range")), some (.int size)], by walk_at "c", trivial, AZ ?_⟩
 left
 have hfl : ∀ k, (Am size (ds.take k)).length ≤ 24 := fun k => by
  rw [DF]
  have : (ds.take k).length ≤ 6 := by rw [length_take]; exact Aa 0x1889021200988800422 rt hl (min_le_right _ _)
  have := mul_le_mul this (show size + 1 ≤ 4 by exact Aq 0x840910000c8800421 rt hs.2)
  exact Aq 0x1822004218c800421 rt this
 obtain ⟨J, hJ⟩ : ∃ J : Nat → AU → Ai → List PV → Prop, ∀ i m' L' x, J i m' L' x ↔ (∃ q1 q2 : Option PV, m' = [none, q1, q2, some (.val (.type "range")), some (.int size)]) ∧ L' = L ∧ x = (Am size (ds.take i)).map AW := ⟨_, fun _ _ _ _ => Iff.rfl⟩
 refine ⟨_, _, .list, .lst, J, (hJ _ _ _ _).mpr ⟨⟨none, none, rfl⟩, rfl, rfl⟩, ?_, ?_⟩
 ·rintro cenv cok hc1 hc2 i p m' L' x hp hj
  obtain ⟨⟨p1, p2, rfl⟩, rfl, rfl⟩ := (hJ _ _ _ _).mp hj
  refine ⟨.lst, ?_⟩
  have hJ1 := hJ (i + 1)
  have hfi := hfl i
  clear hj hJ
  rw [getElem?_map] at hp
  obtain ⟨d, hd, rfl⟩ := Option.map_eq_some_iff.mp hp
  have hnext : Am size (ds.take (i + 1)) = Am size (ds.take i) ++ Co size d := by
   rw [take_add_one, hd]
   unfold Am
   simp
  rw [hnext] at hJ1
  generalize Am size (ds.take i) = acc at hJ1 hfi ⊢
  right
  refine D6 ?_
  refine Fh (tg := Ay) (fun _ => rfl) trivial ?_
  left
  refine Dh (by exact Aq 0x122060200000000000000034a21a00408421 rt hs.1) (by exact Aq 0x200000000000000034a12206020c8800421 rt hs.2) ?_
  obtain ⟨J2, hJ2⟩ : ∃ J : Nat → AU → Ai → List PV → Prop, ∀ j m' L2 x, J j m' L2 x ↔ (∃ q2 : Option PV, m' = [none, some (.int d), q2, some (.val (.type "range")), some (.int size)]) ∧ L2 = L' ∧ x = (acc ++ (List.range j).map fun s => (d + s, s == 0)).map AW := ⟨_, fun _ _ _ _ => Iff.rfl⟩
  refine ⟨J2, (hJ2 _ _ _ _).mpr ⟨⟨_, rfl⟩, rfl, by simp⟩, ?_, ?_⟩
  ·intro j p m' L2 x hp hj
   obtain ⟨⟨q3, rfl⟩, rfl, rfl⟩ := (hJ2 _ _ _ _).mp hj
   refine ⟨trivial, ?_⟩
   have hJ3 := hJ2 (j + 1)
   clear hj
   obtain ⟨hj1, rfl⟩ := D3 hp
   have hj4 : j < size + 1 := by exact AB 0x1228080848a181232852808422 rt hj1 (toNat_of_nonneg (Aq 0x488180041a00408421 rt hs.1))
   have hnx : (acc ++ (List.range (j + 1)).map fun s => (d + s, s == 0)).map AW = (acc ++ (List.range j).map fun s => (d + s, s == 0)).map AW ++ [AW (d + j, j == 0)] := by
    rw [range_succ]; simp
   rw [hnx] at hJ3
   have hfl : ((acc ++ (List.range j).map fun s => (d + s, s == 0)).map AW).length ≤ sizeLine := by
    rw [length_map, length_append, length_map, length_range]; exact B7 0x95a80009100584382280148c35010a008c8800424 rt hs.2 hz10 hfi hj4
   clear hnx
   rw [show (0 + (j : Int) * 1) = (j : Int) by exact IW 0x40d0309c0401420 rt]
   generalize (acc ++ (List.range j).map fun s => (d + s, s == 0)).map AW = acc2 at hJ3 hfl ⊢
   right
   refine D6 ?_
   refine Cp ?_
   left
   ·intro h0
    have hb : (j == 0) = true := by simp; exact IW 4787278194065441 rt h0
    rw [hb] at hJ3
    left
    refine ⟨(by decide : 2 ≤ sizeLine), hfl, (hJ3 _ _ _).mpr ⟨⟨_, rfl⟩, rfl, ?_⟩⟩
    simp; rfl
   ·intro h0
    have hb : (j == 0) = false := by simp; omega
    rw [hb] at hJ3
    left
    refine ⟨(by decide : 2 ≤ sizeLine), hfl, (hJ3 _ _ _).mpr ⟨⟨_, rfl⟩, rfl, ?_⟩⟩
    simp; rfl
  ·intro m' L2 x hj
   obtain ⟨⟨q3, rfl⟩, rfl, rfl⟩ := (hJ2 _ _ _ _).mp hj
   refine ⟨trivial, (hJ1 _ _ _).mpr ⟨⟨_, _, rfl⟩, rfl, ?_⟩⟩
   rw [D4, show ((size : Int) + 1).toNat = size + 1 by exact GH 0x12240810489181032c021 rt (toNat_of_nonneg (Aq 0x488180041a00408421 rt hs.1))]
   rfl
 ·intro m' L' x hj
  obtain ⟨⟨p1, p2, rfl⟩, rfl, rfl⟩ := (hJ _ _ _ _).mp hj
  refine ⟨.lst, AK ?_⟩
  rw [show (An ds).length = ds.length by simp, take_length]
  refine AJ (by walk_at "s") (by decide) ?_
  exact h _ hcol
end
def m_e (x40 x39 x35 x33 x32 x30 x29 x28 x27 x26 : Option PV) : AU := M4 x26 x27 x28 x29 x30 none x32 x33 none x35 none none none x39 x40 none none
section
variable (KX : (KK X.w.params).In X.h₀)
include KX
theorem PD (G : AA X GG) (ok : A8 env BA) (hH : A.handled = none) (hA : A.depth < 900) (hu : A.units < 100)
  (hl : fl.length ≤ 24)
  (h : ∀ (as : List Addr) (am aa : Addr), as.length = fl.length → WS X A env BA (m_e (some (.lst dr)) (some (.int size)) pdue (some cv) (some (.lst (fl.map AW))) (some (.lst (as.map .ref))) (some (.int (fl.length / 2 : Nat))) (some (.int (fl.length / 3 : Nat))) (some (.ref am)) (some (.ref aa))) (execs ((Bj X.w.params).drop 13) env) ((aa, .list []) :: (am, .list []) :: ((thE as fl).reverse ++ L)) Qn Qr Qb Qc) :
  WS X A env BA (m_e (some (.lst dr)) (some (.int size)) pdue (some cv) (some (.lst (fl.map AW))) none none none none none) (execs ((Bj X.w.params).drop 10) env) L Qn Qr Qb Qc := by
 have hz10 : (100000 : Nat) ≤ sizeLine := by decide
 refine Ab ?_
 refine Fz (tg := Ay) (fun _ => rfl) (Ak (by decide +kernel)) (En ok (by walk_at "m") rfl (by decide +kernel)) ?_
 refine ⟨[none, none], by walk_at "c", trivial, AZ ?_⟩
 left
 obtain ⟨J, hJ⟩ : ∃ J : Nat → AU → Ai → List PV → Prop, ∀ i m' L' x, J i m' L' x ↔ (∃ q1 : Option PV, m' = [none, q1]) ∧ ∃ as : List Addr, as.length = i ∧ L' = (thE as (fl.take i)).reverse ++ L ∧ x = as.map .ref := ⟨_, fun _ _ _ _ => Iff.rfl⟩
 refine ⟨_, _, .list, .lst, J, (hJ _ _ _ _).mpr ⟨⟨none, rfl⟩, [], rfl, rfl, rfl⟩, ?_, ?_⟩
 ·rintro cenv cok hc1 hc2 i p m' L' x hp hj
  obtain ⟨⟨p1, rfl⟩, as, has, rfl, rfl⟩ := (hJ _ _ _ _).mp hj
  refine ⟨.lst, ?_⟩
  have hJ1 := hJ (i + 1)
  clear hj hJ
  rw [getElem?_map] at hp
  obtain ⟨f, hf, rfl⟩ := Option.map_eq_some_iff.mp hp
  have hif : i < fl.length := (List.getElem?_eq_some_iff.mp hf).1
  rw [take_add_one, hf] at hJ1
  right
  refine D6 ?_
  refine Cp ?_
  refine Ci ?_
  left
  refine BV (k := 0) (by decide) (by decide) (q := .int f.1) rfl ?_
  left
  refine ⟨(by decide : 1 ≤ sizeLine), fun a => ⟨by rw [length_map]; exact B7 0x254042c215a84148c35010a00e08800424 rt hl hz10 has hif, (hJ1 _ _ _).mpr ⟨⟨_, rfl⟩, as ++ [a], by simp [has], ?_, by simp⟩⟩⟩
  show _ = (thE (as ++ [a]) (fl.take i ++ [f])).reverse ++ L
  rw [MO (by rw [has, length_take]; omega)]
  simp
 ·rintro m' L' x hj
  obtain ⟨⟨p1, rfl⟩, as, has, rfl, rfl⟩ := (hJ _ _ _ _).mp hj
  have hasl : as.length = fl.length := by rw [has]; simp
  have htk : fl.take (fl.map AW).length = fl := by simp
  rw [htk]
  refine ⟨.lst, AK ?_⟩
  refine AJ (by walk_at "s") (by decide) ?_
  refine Ab ?_
  refine BY rfl (MM ok (by walk_at "m") (by walk_at "m") rfl (by decide +kernel) rfl rfl rfl rfl) ?_
  left
  refine Dm (ps := fl.map AW) .lst (by rw [length_map]; exact Aq 0x8000000000000000695032608800421 rt hl) ?_
  left
  refine Dm (ps := fl.map AW) .lst (by rw [length_map]; exact Aq 0x8000000000000000695032608800421 rt hl) ?_
  left
  have e2 : (((fl.map AW).length : Nat) : Int) / 2 = ((fl.length / 2 : Nat) : Int) := by rw [length_map]; rfl
  have e3 : (((fl.map AW).length : Nat) : Int) / 3 = ((fl.length / 3 : Nat) : Int) := by rw [length_map]; rfl
  rw [e2, e3]
  refine ⟨(by decide : 2 ≤ sizeLine), _, rfl, rfl, ?_⟩
  refine Cy (AJ (by walk_at "s") (by decide) ?_)
  refine Cy (AJ (by walk_at "s") (by decide) ?_)
  show WS _ _ _ _ _ _ _ _ _ _ _
  refine Ab ?_
  refine De ?_ rfl (N9 ok (.inl (by walk_at "m")))
  left
  refine Ci ?_
  left
  refine ⟨(by decide : 0 ≤ sizeLine), fun am => ?_⟩
  left
  refine Ci ?_
  left
  refine ⟨(by decide : 0 ≤ sizeLine), fun aa => ?_⟩
  left
  refine ⟨(by decide : 2 ≤ sizeLine), ?_⟩
  refine AQ ?_ rfl rfl
  right
  right
  show WS _ _ _ _ _ _ _ _ _ _ _
  exact h as am aa hasl
end
abbrev kz (z : (Nat × Bool) × Addr) : Nat := z.1.1
abbrev zP (z : (Nat × Bool) × Addr) : PV := .ref z.2
section
variable (KX : (KK X.w.params).In X.h₀)
include KX
theorem KP {l : List (Nat × Bool)} {x : Nat × Bool} (G : AA X GG) (hA : A.depth < 950) (ic : FR X cv) (hx : x.1 < B) (hl : (Al fst B l).length ≤ 100)
  (S : BQ L am (.list ((Al fst B l).map AW)) (.list ((Al fst B (l ++ [x])).map AW)) L') (hQ : Q .none L') : As X A (.val (.ref aIR)) [.ref am, AW x] [(ofString "key", cv)] L Q := by
 obtain ⟨⟨ka, kb, kc, rfl⟩, hcall⟩ := ic
 have hR : recursionLimit = 1000 := rfl
 refine Fc KX (px := AW x) (pk := .int x.1) (hv := .none) (ps := (Al fst B l).map AW) (lo := 0) (hi := ((Al fst B l).map AW).length) (f := fun i => match (Al fst B l)[i]? with | some y => decide (x.1 < y.1) | none => true) G (by exact Aa 0x12122001fa04548a1db08a808422 rt hA hR) S.mem (.inl ⟨rfl, rfl⟩) (.inr ⟨_, _, _, rfl⟩) (le_refl _) (zero_le _) (by rw [length_map]; exact Aq 0x7d022a023208a800421 rt hl) (Os KX) ?_ ?_ ?_ ?_
 ·intro A' h1 h2 h3
  exact hcall A' L _ _ _ (by exact AB 0x12a0848802801fa04548a1db08a808423 rt hA hR h1) ⟨rfl, rfl⟩
 ·intro i p A' h1 h2 h3 h4
  rw [getElem?_map] at h4
  obtain ⟨y, hy, rfl⟩ := Option.map_eq_some_iff.mp h4
  refine hcall A' L _ _ _ (by exact AB 0x12a0888802801fa04548a1db08a808423 rt hA hR h1) ?_
  rw [hy]
  refine Fb (fun h => ⟨rfl, ?_⟩) (fun h => ⟨rfl, ?_⟩)
  ·exact decide_eq_true (by exact Aa 0x250148d0320421 rt h)
  ·exact decide_eq_false (by exact Aa 0x9404c91a06430421 rt h)
 ·intro i j hij hj hf
  rw [length_map] at hj
  rw [getElem?_eq_getElem (by (first | exact Aa 0x94052808421 rt hj | exact AB 0xa405490852800422 rt hij hj))] at hf ⊢
  have := CG (getElem?_eq_getElem (show i < (Al fst B l).length by exact AB 0xa405490852800422 rt hij hj)) (getElem?_eq_getElem hj) hij
  simp only [decide_eq_true_eq] at hf ⊢
  exact AB 0x95050a0852800422 rt this hf
 ·intro r h1 h2 h3 h4
  refine ⟨L', ?_, hQ⟩
  have := IG (k := fst) (r := r) hx (l := l) (fun i y hy => ?_)
  ·rw [← this] at S
   rw [map_append, map_cons, map_take, map_drop] at S
   exact S
  ·have hi := (List.getElem?_eq_some_iff.mp hy).1
   rcases lt_or_ge i r with q | q
   ·have := h3 i (zero_le _) q
    rw [hy] at this
    simp only [decide_eq_false_iff_not] at this
    simp; exact ⟨fun ha => Aa 291380514718753 rt this, fun ha => Aa 0x94052808421 rt q⟩
   ·have := h4 i q (by rw [length_map]; exact hi)
    rw [hy] at this
    simp only [decide_eq_true_eq] at this
    simp; exact ⟨fun ha => B7 0xb501090852800402 rt q ha, fun ha => B7 0xb505090052808402 rt this ha⟩
theorem KO {l : List (Nat × Bool)} {x : Nat × Bool} (G : AA X GG) (hA : A.depth < 950) (ic : FR X cv) (hx : x.1 < B) (hl : (Al fst B l).length ≤ 100)
  (S : BQ L am (.list ((Al fst B l).map AW)) (.list ((Al fst B (x :: l)).map AW)) L') (hQ : Q .none L') : As X A (.val (.ref aIL)) [.ref am, AW x] [(ofString "key", cv)] L Q := by
 obtain ⟨⟨ka, kb, kc, rfl⟩, hcall⟩ := ic
 have hR : recursionLimit = 1000 := rfl
 refine Gw KX (px := AW x) (pk := .int x.1) (hv := .none) (ps := (Al fst B l).map AW) (lo := 0) (hi := ((Al fst B l).map AW).length) (f := fun i => match (Al fst B l)[i]? with | some y => decide (y.1 < x.1) | none => false) G (by exact Aa 0x12122001fa04548a1db08a808422 rt hA hR) S.mem (.inl ⟨rfl, rfl⟩) (.inr ⟨_, _, _, rfl⟩) (le_refl _) (zero_le _) (by rw [length_map]; exact Aq 0x7d022a023208a800421 rt hl) (Oo KX) ?_ ?_ ?_ ?_
 ·intro A' h1 h2 h3
  exact hcall A' L _ _ _ (by exact AB 0x12a0848802801fa04548a1db08a808423 rt hA hR h1) ⟨rfl, rfl⟩
 ·intro i p A' h1 h2 h3 h4
  rw [getElem?_map] at h4
  obtain ⟨y, hy, rfl⟩ := Option.map_eq_some_iff.mp h4
  refine hcall A' L _ _ _ (by exact AB 0x12a0888802801fa04548a1db08a808423 rt hA hR h1) ?_
  rw [hy]
  refine Fb (fun h => ⟨rfl, ?_⟩) (fun h => ⟨rfl, ?_⟩)
  ·exact decide_eq_true (by exact Aa 0x250148d0320421 rt h)
  ·exact decide_eq_false (by exact Aa 0x9404c91a06430421 rt h)
 ·intro i j hij hj hf
  rw [length_map] at hj
  rw [getElem?_eq_getElem (by (first | exact Aa 0x94052808421 rt hj | exact AB 0xa405490852800422 rt hij hj))] at hf ⊢
  have := CG (getElem?_eq_getElem (show i < (Al fst B l).length by exact AB 0xa405490852800422 rt hij hj)) (getElem?_eq_getElem hj) hij
  simp only [decide_eq_false_iff_not] at hf ⊢
  exact AB 0x2921329013052800422 rt this hf
 ·intro r h1 h2 h3 h4
  refine ⟨L', ?_, hQ⟩
  have := IF (k := fst) (r := r) hx (l := l) (fun i y hy => ?_)
  ·rw [← this] at S
   rw [map_append, map_cons, map_take, map_drop] at S
   exact S
  ·have hi := (List.getElem?_eq_some_iff.mp hy).1
   rcases lt_or_ge i r with q | q
   ·have := h3 i (zero_le _) q
    rw [hy] at this
    simp only [decide_eq_true_eq] at this
    simp; exact ⟨fun ha => Aa 0x94052808421 rt this, fun ha => Aa 0x94052808421 rt q⟩
   ·have := h4 i q (by rw [length_map]; exact hi)
    rw [hy] at this
    simp only [decide_eq_false_iff_not] at this
    simp; exact ⟨fun ha => B7 0xb505090852800402 rt q ha, fun ha => B7 0x16a0a5010a50130402 rt this ha⟩
theorem KR {l : List ((Nat × Bool) × Addr)} {x : (Nat × Bool) × Addr} (G : AA X GG) (hA : A.depth < 950) (hu : A.units < 200) (hx : kz x < B) (hl : (Al kz B l).length ≤ 100)
  (hm : ∀ z, z = x ∨ z ∈ l → (z.2, AO.list [.int z.1.1]) ∈ L)
  (S : BQ L aa (.list ((Al kz B l).map zP)) (.list ((Al kz B (l ++ [x])).map zP)) L') (hQ : Q .none L') : As X A (.val (.ref aIR)) [.ref aa, zP x] [] L Q := by
 have hR : recursionLimit = 1000 := rfl
 have hc : (1000 : Nat) ≤ cLine := by decide
 refine Fc KX (px := zP x) (pk := zP x) (hv := .none) (kv := .none) (ps := (Al kz B l).map zP) (lo := 0) (hi := ((Al kz B l).map zP).length) (f := fun i => match (Al kz B l)[i]? with | some y => decide (x.1.1 < y.1.1) | none => true) G (by exact Aa 0x12122001fa04548a1db08a808422 rt hA hR) S.mem (.inl ⟨rfl, rfl⟩) (.inl rfl) (le_refl _) (zero_le _) (by rw [length_map]; exact Aq 0x7d022a023208a800421 rt hl) (Pk KX) ?_ ?_ ?_ ?_
 ·intro A' h1 h2 h3
  exact rfl
 ·intro i p A' h1 h2 h3 h4
  rw [getElem?_map] at h4
  obtain ⟨y, hy, rfl⟩ := Option.map_eq_some_iff.mp h4
  show Bu X A' .Lt (zP x) (zP y) L _ _
  rw [hy]
  refine LS (.ref (hm x (.inl rfl))) (.ref (hm y (.inr (BW (mem_of_getElem? hy))))) (by exact AB 0x12a09888028014fd0228026408a808423 rt hu hc h3) (fun h => ⟨rfl, ?_⟩) (fun h => ⟨rfl, ?_⟩)
  ·exact decide_eq_true (by exact Aa 0x250148d0320421 rt h)
  ·exact decide_eq_false (by exact Aa 0x9404c91a06430421 rt h)
 ·intro i j hij hj hf
  rw [length_map] at hj
  rw [getElem?_eq_getElem (by (first | exact Aa 0x94052808421 rt hj | exact AB 0xa405490852800422 rt hij hj))] at hf ⊢
  have := CG (getElem?_eq_getElem (show i < (Al kz B l).length by exact AB 0xa405490852800422 rt hij hj)) (getElem?_eq_getElem hj) hij
  simp only [decide_eq_true_eq] at hf ⊢
  change (Al kz B l)[i].1.1 ≤ (Al kz B l)[j].1.1 at this
  exact AB 0xa405490052808422 rt hf this
 ·intro r h1 h2 h3 h4
  refine ⟨L', ?_, hQ⟩
  have := IG (k := kz) (r := r) hx (l := l) (fun i y hy => ?_)
  ·rw [← this] at S
   rw [map_append, map_cons, map_take, map_drop] at S
   exact S
  ·have hi := (List.getElem?_eq_some_iff.mp hy).1
   rcases lt_or_ge i r with q | q
   ·have := h3 i (zero_le _) q
    rw [hy] at this
    simp only [decide_eq_false_iff_not] at this
    have e1 : kz x = x.1.1 := rfl
    have e2 : kz y = y.1.1 := rfl
    simp; exact ⟨fun ha => Aa 291380514718753 rt this, fun ha => Aa 0x94052808421 rt q⟩
   ·have := h4 i q (by rw [length_map]; exact hi)
    rw [hy] at this
    simp only [decide_eq_true_eq] at this
    have e1 : kz x = x.1.1 := rfl
    have e2 : kz y = y.1.1 := rfl
    simp; exact ⟨fun ha => B7 0xb501090852800402 rt q ha, fun ha => B7 0xb505090052808402 rt this ha⟩
theorem KQ {l : List ((Nat × Bool) × Addr)} {x : (Nat × Bool) × Addr} (G : AA X GG) (hA : A.depth < 950) (hu : A.units < 200) (hx : kz x < B) (hl : (Al kz B l).length ≤ 100)
  (hm : ∀ z, z = x ∨ z ∈ l → (z.2, AO.list [.int z.1.1]) ∈ L)
  (S : BQ L aa (.list ((Al kz B l).map zP)) (.list ((Al kz B (x :: l)).map zP)) L') (hQ : Q .none L') : As X A (.val (.ref aIL)) [.ref aa, zP x] [] L Q := by
 have hR : recursionLimit = 1000 := rfl
 have hc : (1000 : Nat) ≤ cLine := by decide
 refine Gw KX (px := zP x) (pk := zP x) (hv := .none) (kv := .none) (ps := (Al kz B l).map zP) (lo := 0) (hi := ((Al kz B l).map zP).length) (f := fun i => match (Al kz B l)[i]? with | some y => decide (y.1.1 < x.1.1) | none => false) G (by exact Aa 0x12122001fa04548a1db08a808422 rt hA hR) S.mem (.inl ⟨rfl, rfl⟩) (.inl rfl) (le_refl _) (zero_le _) (by rw [length_map]; exact Aq 0x7d022a023208a800421 rt hl) (Pj KX) ?_ ?_ ?_ ?_
 ·intro A' h1 h2 h3
  exact rfl
 ·intro i p A' h1 h2 h3 h4
  rw [getElem?_map] at h4
  obtain ⟨y, hy, rfl⟩ := Option.map_eq_some_iff.mp h4
  show Bu X A' .Lt (zP y) (zP x) L _ _
  rw [hy]
  refine LS (.ref (hm y (.inr (BW (mem_of_getElem? hy))))) (.ref (hm x (.inl rfl))) (by exact AB 0x12a09888028014fd0228026408a808423 rt hu hc h3) (fun h => ⟨rfl, ?_⟩) (fun h => ⟨rfl, ?_⟩)
  ·exact decide_eq_true (by exact Aa 0x250148d0320421 rt h)
  ·exact decide_eq_false (by exact Aa 0x9404c91a06430421 rt h)
 ·intro i j hij hj hf
  rw [length_map] at hj
  rw [getElem?_eq_getElem (by (first | exact Aa 0x94052808421 rt hj | exact AB 0xa405490852800422 rt hij hj))] at hf ⊢
  have := CG (getElem?_eq_getElem (show i < (Al kz B l).length by exact AB 0xa405490852800422 rt hij hj)) (getElem?_eq_getElem hj) hij
  simp only [decide_eq_false_iff_not] at hf ⊢
  change (Al kz B l)[i].1.1 ≤ (Al kz B l)[j].1.1 at this
  exact AB 0x2541329000a50130422 rt hf this
 ·intro r h1 h2 h3 h4
  refine ⟨L', ?_, hQ⟩
  have := IF (k := kz) (r := r) hx (l := l) (fun i y hy => ?_)
  ·rw [← this] at S
   rw [map_append, map_cons, map_take, map_drop] at S
   exact S
  ·have hi := (List.getElem?_eq_some_iff.mp hy).1
   rcases lt_or_ge i r with q | q
   ·have := h3 i (zero_le _) q
    rw [hy] at this
    simp only [decide_eq_true_eq] at this
    have e1 : kz x = x.1.1 := rfl
    have e2 : kz y = y.1.1 := rfl
    simp; exact ⟨fun ha => Aa 0x94052808421 rt this, fun ha => Aa 0x94052808421 rt q⟩
   ·have := h4 i q (by rw [length_map]; exact hi)
    rw [hy] at this
    simp only [decide_eq_false_iff_not] at this
    have e1 : kz x = x.1.1 := rfl
    have e2 : kz y = y.1.1 := rfl
    simp; exact ⟨fun ha => B7 0xb505090852800402 rt q ha, fun ha => B7 0x16a0a5010a50130402 rt this ha⟩
end
def m_g (x40 x39 x35 x33 x32 x31 x30 x29 x28 x27 x26 : Option PV) : AU := M4 x26 x27 x28 x29 x30 x31 x32 x33 none x35 none none none x39 x40 none none
section
variable (KX : (KK X.w.params).In X.h₀)
include KX
theorem PE {th : List PV} (G : AA X GG) (ok : A8 env BA) (hH : A.handled = none) (hA : A.depth < 900) (hu : A.units < 100)
  (ic : FR X cv) (hl : fl.length ≤ 24) (hB : ∀ f ∈ fl, f.1 < B)
  (h : ∀ qm : Option PV, WS X A env BA (m_g (some (.lst dr)) (some (.int size)) pdue (some cv) (some (.lst (fl.map AW))) qm (some (.lst th)) (some (.int (fl.length / 2 : Nat))) (some (.int (fl.length / 3 : Nat))) (some (.ref am)) (some (.ref aa))) (execs ((Bj X.w.params).drop 15) env) ((aa, .list []) :: (am, .list ((Al fst B fl).map AW)) :: L) Qn Qr Qb Qc) :
  WS X A env BA (m_g (some (.lst dr)) (some (.int size)) pdue (some cv) (some (.lst (fl.map AW))) none (some (.lst th)) (some (.int (fl.length / 2 : Nat))) (some (.int (fl.length / 3 : Nat))) (some (.ref am)) (some (.ref aa))) (execs ((Bj X.w.params).drop 13) env) ((aa, .list []) :: (am, .list []) :: L) Qn Qr Qb Qc := by
 have hz10 : (100000 : Nat) ≤ sizeLine := by decide
 have hnil : Al fst B ([] : List (Nat × Bool)) = [] := List.flatMap_eq_nil_iff.mpr fun _ _ => rfl
 refine Ab ?_
 refine BM (tg := Ay) trivial (AZ ?_) (fun _ => rfl)
 left
 refine ⟨_, rfl, ?_⟩
 left
 refine Bb (ps := fl.map AW) .lst (by rw [length_map]; exact Aa 0x250048c35010a00e08800422 rt hl hz10) nofun ?_
 rw [Bf, Dr]
 generalize hhalf : fl.length / 2 = hf at h ⊢
 obtain ⟨J, hJ⟩ : ∃ J : Nat → QS, ∀ i m' L', J i m' L' ↔ ∃ qm : Option PV, m' = (m_g (some (.lst dr)) (some (.int size)) pdue (some cv) (some (.lst (fl.map AW))) qm (some (.lst th)) (some (.int (hf : Nat))) (some (.int (fl.length / 3 : Nat))) (some (.ref am)) (some (.ref aa))) ∧ L' = (aa, .list []) :: (am, .list ((Al fst B ((fl.drop hf).take i)).map AW)) :: L := ⟨_, fun _ _ _ => Iff.rfl⟩
 refine ⟨_, _, .list, .lst, J, (hJ _ _ _).mpr ⟨none, rfl, by rw [take_zero, hnil]; rfl⟩, ?_, ?_⟩
 ·intro i p m' L' hp hj
  obtain ⟨qm, rfl, rfl⟩ := (hJ _ _ _).mp hj
  refine ⟨.lst, ?_⟩
  rw [getElem?_map] at hp
  obtain ⟨f, hf2, rfl⟩ := Option.map_eq_some_iff.mp hp
  have hJ1 := hJ (i + 1)
  clear hj hJ
  rw [take_add_one, hf2] at hJ1
  have hfB : ∀ y ∈ (fl.drop hf).take i, y.1 < B := fun y hy => hB y (mem_of_mem_drop (mem_of_mem_take hy))
  have hol : (Al fst B ((fl.drop hf).take i)).length ≤ 100 := by rw [CV _ _ _ hfB, length_take, length_drop]; exact AB 0x3208a9021400a9200e08800423 rt hl (min_le_right _ _) (sub_le _ _)
  have hfx : f.1 < B := hB f (mem_of_mem_drop (mem_of_getElem? hf2))
  generalize (fl.drop hf).take i = l at hJ1 hol ⊢
  right
  left
  refine KP KX G (by show A.depth < 950; exact Aq 0x76c22a03c208a808421 rt hA) ic hfx hol (.there .here) ?_
  refine ⟨rfl, AC ((hJ1 _ _).mpr ⟨_, rfl, rfl⟩)⟩
 ·intro m' L' hj
  obtain ⟨qm, rfl, rfl⟩ := (hJ _ _ _).mp hj
  refine ⟨.lst, ?_⟩
  rw [show (fl.drop hf).take ((fl.drop hf).map AW).length = fl.drop hf by rw [length_map, take_length]]
  clear hj hJ J
  refine AC ?_
  refine Ab ?_
  refine BM (tg := Ay) trivial (AZ ?_) (fun _ => rfl)
  left
  refine ⟨_, rfl, ?_⟩
  left
  refine Bb (ps := fl.map AW) .lst (by rw [length_map]; exact Aa 0x250048c35010a00e08800422 rt hl hz10) nofun ?_
  rw [Bf, Cv]
  left
  refine ⟨_, rfl, ?_⟩
  left
  refine Bb (ps := (fl.take hf).map AW) .lst (by rw [length_map, length_take]; exact AB 0x25404280148c35010a00e08800423 rt hl hz10 (min_le_right _ _)) (by decide) ?_
  rw [Bf, IJ]
  obtain ⟨J, hJ⟩ : ∃ J : Nat → QS, ∀ i m' L', J i m' L' ↔ ∃ qm : Option PV, m' = (m_g (some (.lst dr)) (some (.int size)) pdue (some cv) (some (.lst (fl.map AW))) qm (some (.lst th)) (some (.int (hf : Nat))) (some (.int (fl.length / 3 : Nat))) (some (.ref am)) (some (.ref aa))) ∧ L' = (aa, .list []) :: (am, .list ((Al fst B (((fl.take hf).reverse.take i).reverse ++ fl.drop hf)).map AW)) :: L := ⟨_, fun _ _ _ => Iff.rfl⟩
  refine ⟨_, _, .list, .lst, J, (hJ _ _ _).mpr ⟨_, rfl, rfl⟩, ?_, ?_⟩
  ·intro i p m' L' hp hj
   obtain ⟨qm, rfl, rfl⟩ := (hJ _ _ _).mp hj
   refine ⟨.lst, ?_⟩
   rw [getElem?_map] at hp
   obtain ⟨f, hf2, rfl⟩ := Option.map_eq_some_iff.mp hp
   have hJ1 := hJ (i + 1)
   clear hj hJ
   rw [take_add_one, hf2, List.reverse_append] at hJ1
   have hfB : ∀ y ∈ ((fl.take hf).reverse.take i).reverse ++ fl.drop hf, y.1 < B := fun y hy => by
    rcases List.mem_append.mp hy with q | q
    ·exact hB y (mem_of_mem_take (List.mem_reverse.mp (mem_of_mem_take (List.mem_reverse.mp q))))
    ·exact hB y (mem_of_mem_drop q)
   have hol : (Al fst B (((fl.take hf).reverse.take i).reverse ++ fl.drop hf)).length ≤ 100 := by
    rw [CV _ _ _ hfB, length_append, length_reverse, length_take, length_reverse, length_take, length_drop]; exact B7 0xc822ad20021400a1600a9200e08800824 rt hl (min_le_right _ _) (sub_le _ _) (min_le_right _ _)
   have hfx : f.1 < B := hB f (mem_of_mem_take (List.mem_reverse.mp (mem_of_getElem? hf2)))
   rw [append_assoc] at hJ1
   generalize ((fl.take hf).reverse.take i).reverse ++ fl.drop hf = l at hJ1 hol ⊢
   right
   left
   refine KO KX G (by show A.depth < 950; exact Aq 0x76c22a03c208a808421 rt hA) ic hfx hol (.there .here) ?_
   refine ⟨rfl, AC ((hJ1 _ _).mpr ⟨_, rfl, rfl⟩)⟩
  ·intro m' L' hj
   obtain ⟨qm, rfl, rfl⟩ := (hJ _ _ _).mp hj
   refine ⟨.lst, ?_⟩
   rw [show (fl.take hf).reverse.take ((fl.take hf).reverse.map AW).length = (fl.take hf).reverse by rw [length_map, take_length], List.reverse_reverse, take_append_drop]
   exact AC (h _)
end
def m_h (x40 x39 x35 x33 x32 x31 x30 x28 x27 x26 : Option PV) : AU := M4 x26 x27 x28 none x30 x31 x32 x33 none x35 none none none x39 x40 none none
section
variable (KX : (KK X.w.params).In X.h₀)
include KX
theorem PG {fp : List PV} {zl : List ((Nat × Bool) × Addr)} (G : AA X GG) (ok : A8 env BA) (hH : A.handled = none) (hA : A.depth < 900) (hu : A.units < 100)
  (hl : zl.length ≤ 24) (hB : ∀ f ∈ zl, kz f < B) (hm : ∀ z ∈ zl, (z.2, AO.list [.int z.1.1]) ∈ L)
  {third : Nat}
  (h : ∀ qm : Option PV, WS X A env BA (m_h (some (.lst dr)) (some (.int size)) pdue (some cv) (some (.lst fp)) qm (some (.lst (zl.map zP))) (some (.int third)) (some (.ref am)) (some (.ref aa))) (execs ((Bj X.w.params).drop 17) env) ((aa, .list ((Al kz B zl).map zP)) :: (am, .list mp) :: L) Qn Qr Qb Qc) :
  WS X A env BA (m_h (some (.lst dr)) (some (.int size)) pdue (some cv) (some (.lst fp)) none (some (.lst (zl.map zP))) (some (.int third)) (some (.ref am)) (some (.ref aa))) (execs ((Bj X.w.params).drop 15) env) ((aa, .list []) :: (am, .list mp) :: L) Qn Qr Qb Qc := by
 have hz10 : (100000 : Nat) ≤ sizeLine := by decide
 have hnil : Al kz B ([] : List ((Nat × Bool) × Addr)) = [] := List.flatMap_eq_nil_iff.mpr fun _ _ => rfl
 refine Ab ?_
 refine BM (tg := Ay) trivial (AZ ?_) (fun _ => rfl)
 left
 refine ⟨_, rfl, ?_⟩
 left
 refine Bb (ps := zl.map zP) .lst (by rw [length_map]; exact Aa 0x250048c35010a00e08800422 rt hl hz10) nofun ?_
 rw [Bf, Dr]
 obtain ⟨J, hJ⟩ : ∃ J : Nat → QS, ∀ i m' L', J i m' L' ↔ ∃ qm : Option PV, m' = (m_h (some (.lst dr)) (some (.int size)) pdue (some cv) (some (.lst fp)) qm (some (.lst (zl.map zP))) (some (.int third)) (some (.ref am)) (some (.ref aa))) ∧ L' = (aa, .list ((Al kz B ((zl.drop third).take i)).map zP)) :: (am, .list mp) :: L := ⟨_, fun _ _ _ => Iff.rfl⟩
 refine ⟨_, _, .list, .lst, J, (hJ _ _ _).mpr ⟨none, rfl, by rw [take_zero, hnil]; rfl⟩, ?_, ?_⟩
 ·intro i p m' L' hp hj
  obtain ⟨qm, rfl, rfl⟩ := (hJ _ _ _).mp hj
  refine ⟨.lst, ?_⟩
  rw [getElem?_map] at hp
  obtain ⟨f, hf2, rfl⟩ := Option.map_eq_some_iff.mp hp
  have hJ1 := hJ (i + 1)
  clear hj hJ
  rw [take_add_one, hf2] at hJ1
  have hfB : ∀ y ∈ (zl.drop third).take i, kz y < B := fun y hy => hB y (mem_of_mem_drop (mem_of_mem_take hy))
  have hol : (Al kz B ((zl.drop third).take i)).length ≤ 100 := by rw [CV _ _ _ hfB, length_take, length_drop]; exact AB 0x3208a9021400a9200e08800423 rt hl (min_le_right _ _) (sub_le _ _)
  have hfx : kz f < B := hB f (mem_of_mem_drop (mem_of_getElem? hf2))
  have hlm : ∀ z, z = f ∨ z ∈ (zl.drop third).take i → z ∈ zl := fun z hz => by
   rcases hz with rfl | hz
   ·exact mem_of_mem_drop (mem_of_getElem? hf2)
   ·exact mem_of_mem_drop (mem_of_mem_take hz)
  generalize (zl.drop third).take i = l at hJ1 hol hlm ⊢
  right
  left
  refine KR KX G (by show A.depth < 950; exact Aq 0x76c22a03c208a808421 rt hA) (by show A.units < 200; exact Aq 0x19022a023208a808421 rt hu) hfx hol (fun z hz => by
   have : z ∈ zl := hlm z hz
   exact .tail _ (.tail _ (hm z this))) .here ?_
  refine ⟨rfl, AC ((hJ1 _ _).mpr ⟨_, rfl, rfl⟩)⟩
 ·intro m' L' hj
  obtain ⟨qm, rfl, rfl⟩ := (hJ _ _ _).mp hj
  refine ⟨.lst, ?_⟩
  rw [show (zl.drop third).take ((zl.drop third).map zP).length = zl.drop third by rw [length_map, take_length]]
  clear hj hJ J
  refine AC ?_
  refine Ab ?_
  refine BM (tg := Ay) trivial (AZ ?_) (fun _ => rfl)
  left
  refine ⟨_, rfl, ?_⟩
  left
  refine Bb (ps := zl.map zP) .lst (by rw [length_map]; exact Aa 0x250048c35010a00e08800422 rt hl hz10) nofun ?_
  rw [Bf, Cv]
  left
  refine ⟨_, rfl, ?_⟩
  left
  refine Bb (ps := (zl.take third).map zP) .lst (by rw [length_map, length_take]; exact AB 0x25404280148c35010a00e08800423 rt hl hz10 (min_le_right _ _)) (by decide) ?_
  rw [Bf, IJ]
  obtain ⟨J, hJ⟩ : ∃ J : Nat → QS, ∀ i m' L', J i m' L' ↔ ∃ qm : Option PV, m' = (m_h (some (.lst dr)) (some (.int size)) pdue (some cv) (some (.lst fp)) qm (some (.lst (zl.map zP))) (some (.int third)) (some (.ref am)) (some (.ref aa))) ∧ L' = (aa, .list ((Al kz B (((zl.take third).reverse.take i).reverse ++ zl.drop third)).map zP)) :: (am, .list mp) :: L := ⟨_, fun _ _ _ => Iff.rfl⟩
  refine ⟨_, _, .list, .lst, J, (hJ _ _ _).mpr ⟨_, rfl, rfl⟩, ?_, ?_⟩
  ·intro i p m' L' hp hj
   obtain ⟨qm, rfl, rfl⟩ := (hJ _ _ _).mp hj
   refine ⟨.lst, ?_⟩
   rw [getElem?_map] at hp
   obtain ⟨f, hf2, rfl⟩ := Option.map_eq_some_iff.mp hp
   have hJ1 := hJ (i + 1)
   clear hj hJ
   rw [take_add_one, hf2, List.reverse_append] at hJ1
   have hfB : ∀ y ∈ ((zl.take third).reverse.take i).reverse ++ zl.drop third, kz y < B := fun y hy => by
    rcases List.mem_append.mp hy with q | q
    ·exact hB y (mem_of_mem_take (List.mem_reverse.mp (mem_of_mem_take (List.mem_reverse.mp q))))
    ·exact hB y (mem_of_mem_drop q)
   have hol : (Al kz B (((zl.take third).reverse.take i).reverse ++ zl.drop third)).length ≤ 100 := by
    rw [CV _ _ _ hfB, length_append, length_reverse, length_take, length_reverse, length_take, length_drop]; exact B7 0xc822ad20021400a1600a9200e08800824 rt hl (min_le_right _ _) (sub_le _ _) (min_le_right _ _)
   have hfx : kz f < B := hB f (mem_of_mem_take (List.mem_reverse.mp (mem_of_getElem? hf2)))
   rw [append_assoc] at hJ1
   have hlm : ∀ z, z = f ∨ z ∈ ((zl.take third).reverse.take i).reverse ++ zl.drop third → z ∈ zl := fun z hz => by
    rcases hz with rfl | hz
    ·exact mem_of_mem_take (List.mem_reverse.mp (mem_of_getElem? hf2))
    ·rcases List.mem_append.mp hz with q | q
     ·exact mem_of_mem_take (List.mem_reverse.mp (mem_of_mem_take (List.mem_reverse.mp q)))
     ·exact mem_of_mem_drop q
   generalize ((zl.take third).reverse.take i).reverse ++ zl.drop third = l at hJ1 hol hlm ⊢
   right
   left
   refine KQ KX G (by show A.depth < 950; exact Aq 0x76c22a03c208a808421 rt hA) (by show A.units < 200; exact Aq 0x19022a023208a808421 rt hu) hfx hol (fun z hz => by
   have : z ∈ zl := hlm z hz
   exact .tail _ (.tail _ (hm z this))) .here ?_
   refine ⟨rfl, AC ((hJ1 _ _).mpr ⟨_, rfl, rfl⟩)⟩
  ·intro m' L' hj
   obtain ⟨qm, rfl, rfl⟩ := (hJ _ _ _).mp hj
   refine ⟨.lst, ?_⟩
   rw [show (zl.take third).reverse.take ((zl.take third).reverse.map zP).length = (zl.take third).reverse by rw [length_map, take_length], List.reverse_reverse, take_append_drop]
   exact AC (h _)
end
def m_i (x40 x39 x35 x33 x32 x31 x30 x27 x26 x25 : Option PV) : AU := Qp x25 x26 x27 none none x30 x31 x32 x33 none x35 none none none x39 x40 none none
section
variable (KX : (KK X.w.params).In X.h₀)
include KX
theorem PH {ag : List PV} (G : AA X GG) (ok : A8 env BA) (hH : A.handled = none) (hA : A.depth < 900) (hu : A.units < 100)
  (hl : zl.length ≤ 24)
  (h : ∀ (qm ql : Option PV), WS X A env BA (m_i (some (.lst dr)) (some (.int size)) pdue (some cv) (some (.lst (zl.map fun z => AW z.1))) qm (some (.lst (zl.map zP))) (some (.ref am)) (some (.ref aa)) ql) (execs ((Bj X.w.params).drop 18) env) ((aa, .list ag) :: (am, .list mp) :: ((zl.map zE2).reverse ++ L)) Qn Qr Qb Qc) :
  WS X A env BA (m_i (some (.lst dr)) (some (.int size)) pdue (some cv) (some (.lst (zl.map fun z => AW z.1))) none (some (.lst (zl.map zP))) (some (.ref am)) (some (.ref aa)) none) (execs ((Bj X.w.params).drop 17) env) ((aa, .list ag) :: (am, .list mp) :: ((zl.map zE).reverse ++ L)) Qn Qr Qb Qc := by
 have hz10 : (100000 : Nat) ≤ sizeLine := by decide
 refine Ab ?_
 refine BM (tg := Bx) (by trivial) ?_ (fun _ => rfl)
 left
 refine Ou hH (ps := zl.map fun z => AW z.1) (qs := zl.map zP) .lst .lst (by simp) ?_
 obtain ⟨J, hJ⟩ : ∃ J : Nat → QS, ∀ i m' L', J i m' L' ↔ ∃ qm ql : Option PV, m' = (m_i (some (.lst dr)) (some (.int size)) pdue (some cv) (some (.lst (zl.map fun z => AW z.1))) qm (some (.lst (zl.map zP))) (some (.ref am)) (some (.ref aa)) ql) ∧ L' = (aa, .list ag) :: (am, .list mp) :: G1 zl i L := ⟨_, fun _ _ _ => Iff.rfl⟩
 refine ⟨J, (hJ _ _ _).mpr ⟨_, none, rfl, by rw [KV]⟩, ?_, ?_⟩
 ·intro i p m' L' hp hj
  obtain ⟨qm, ql, rfl, rfl⟩ := (hJ _ _ _).mp hj
  refine ⟨⟨.lst, .lst⟩, ?_⟩
  obtain ⟨pa, pb, h1, h2, rfl⟩ := IU hp
  rw [getElem?_map] at h1 h2
  obtain ⟨z, hz, rfl⟩ := Option.map_eq_some_iff.mp h1
  rw [hz] at h2
  cases h2
  have hJ1 := hJ (i + 1)
  clear hj hJ
  have S := KU L hz
  refine AQ ?_ rfl rfl
  right
  right
  show WS _ _ _ _ _ _ _ _ _ _ _
  left
  refine ⟨_, BJ F.slot_list_append rfl (.ref (.tail _ (.tail _ S.mem))), ?_⟩
  left
  refine BV (k := 1) (by decide) (by decide) (q := .str (sgn z.1.2)) rfl ?_
  left
  refine BR (.there (.there S)) (by show 1 ≤ _; exact Aq 0x202402061a808500421 rt hz10) ⟨rfl, AC ((hJ1 _ _).mpr ⟨_, _, rfl, rfl⟩)⟩
 ·intro m' L' hj
  obtain ⟨qm, ql, rfl, rfl⟩ := (hJ _ _ _).mp hj
  refine ⟨⟨.lst, .lst⟩, ?_⟩
  rw [IV (by simp), length_map, My]
  exact AC (h _ _)
end
noncomputable abbrev dM (m : Nat × Bool) : Dt := .seq false [.int m.1, .str (sgn m.2)]
theorem Dl {f : α → PV} {g : α → Dt} : ∀ l : List α, (∀ a ∈ l, DOf L (f a) (g a)) → CO L (l.map f) (l.map g)
 | [], _ => .nil
 | a :: l, h => .cons (h a (.head _)) (Dl l fun b hb => h b (.tail _ hb))
theorem FU (B : Nat) (zl : List Zm) : (Al kz B zl).map (fun z => dM z.1) = (Al fst B (zl.map fst)).map dM := by
 rw [← NC (k := fst) (g := (fst : Zm → Nat × Bool)) B zl, map_map]; rfl
def m_j (x40 x39 x35 x33 x27 x26 : Option PV) : AU := M4 x26 x27 none none none none none x33 none x35 none none none x39 x40 none none
section
variable (KX : (KK X.w.params).In X.h₀)
include KX
theorem PI (G : AA X GG) (ok : A8 env BA) (hH : A.handled = none) (hA : A.depth < 900) (hu : A.units < 100)
  (hl : zl.length ≤ 24) (hB : ∀ f ∈ zl, kz f < B)
  (h : WS X A env BA (m_j (some (.lst dr)) (some (.int size)) pdue (some cv) (some (.ref am)) (some (.ref aa))) (execs ((Bj X.w.params).drop 19) env) ((aa, .list ((Al kz B zl).map zP)) :: (am, .list ((Al fst B (zl.map fst)).map AW)) :: ((zl.map zE2).reverse ++ L)) Qn Qr Qb Qc) :
  WS X A env BA (m_j (some (.lst dr)) (some (.int size)) pdue (some cv) (some (.ref am)) (some (.ref aa))) (execs ((Bj X.w.params).drop 18) env) ((aa, .list ((Al kz B zl).map zP)) :: (am, .list ((Al fst B (zl.map fst)).map AW)) :: ((zl.map zE2).reverse ++ L)) Qn Qr Qb Qc := by
 have hz10 : (100000 : Nat) ≤ sizeLine := by decide
 have hzl : ∀ z ∈ Al kz B zl, z ∈ zl := fun z hz => BW hz
 have hml : (Al fst B (zl.map fst)).length = zl.length := by
  rw [CV _ _ _ (fun y hy => by obtain ⟨z, hz, rfl⟩ := List.mem_map.mp hy; exact hB z hz), length_map]
 have hsame := FU B zl
 generalize Al fst B (zl.map fst) = ms at h hml hsame ⊢
 generalize Al kz B zl = zs at h hzl hsame ⊢
 refine Ab ?_
 refine Oh ?_
 refine Nb rfl ?_
 refine Dw (tg := Ay) (fun _ => rfl) (Ak (by decide +kernel)) ?_
 refine Bz (tg := Ay) (by walk_at "c") trivial (fun m => ∃ q : Option PV, m = [none, q, some (.val (.type "list"))]) ⟨none, rfl⟩ (AZ ?_)
 left
 have hmem : (am, AO.list (ms.map AW)) ∈ (aa, AO.list (zs.map zP)) :: (am, .list (ms.map AW)) :: ((zl.map zE2).reverse ++ L) := .tail _ (.head _)
 refine ⟨_, _, .list, .ref hmem, ms.map (fun m => PV.lst [.int m.1, .str (sgn m.2)]), by simp, .ref hmem, by rw [length_map]; exact AB 0x25404284148c35010a00e08800423 rt hl hz10 hml, AK ?_, ?_⟩
 ·left
  refine Fn (T := .lst2 .int .str) (ds := ms.map dM) (es := zs.map fun z => dM z.1) .lst (.ref (.head _)) (Dl _ fun m _ => .lst (.cons .int (.cons .str .nil))) (Dl _ fun z hz => .ref (.tail _ (.tail _ (Kz L (hzl z hz)))) (.cons .int (.cons .str .nil))) ?_ ?_ ?_ ?_ ?_
  ·intro x hx; obtain ⟨m, _, rfl⟩ := List.mem_map.mp hx; exact ⟨_, _, rfl, ⟨_, rfl⟩, ⟨_, rfl⟩⟩
  ·intro x hx; obtain ⟨m, _, rfl⟩ := List.mem_map.mp hx; exact ⟨_, _, rfl, ⟨_, rfl⟩, ⟨_, rfl⟩⟩
  ·show A.units + 1 + 1 < cLine
   have : (1000 : Nat) ≤ cLine := by decide
   exact Aa 0x909024400014fd0228023208a808422 rt hu this
  ·intro hne; exact absurd hsame.symm hne
  ·intro _
   exact AC h
 ·rintro cenv cok hc1 hc2 i p q m' hp hq ⟨q3, rfl⟩
  rw [getElem?_map] at hp hq
  obtain ⟨m, hm, rfl⟩ := Option.map_eq_some_iff.mp hp
  rw [hm] at hq
  cases hq
  right
  refine ⟨rfl, ⟨_, rfl⟩, ?_⟩
  refine WE.freeze ?_
  left
  refine G2 (.inr rfl) (by show 2 ≤ _; exact Aq 0x204402061a808500421 rt hz10) fun a => ⟨_, _, _, rfl, .here, rfl, rfl⟩
end
def Ml (d0 : Nat) : List (List Nat) := [[], Do.getD (d0 / 18 % 8) [], [], Do.getD (d0 / 144 % 8) [], []]
def tlF (d0 : Nat) : List Nat := Eo.getD (d0 / 1152 % 4) []
theorem I9 (k : Nat) (hk : k < 8) : (Do.map PV.str)[k]? = some (.str (Do.getD k [])) := by
 have : k < Do.length := hk
 rw [getElem?_map, getD_eq_getElem?_getD, getElem?_eq_getElem this]; rfl
theorem MN (k : Nat) (hk : k < 4) : (Eo.map PV.str)[k]? = some (.str (Eo.getD k [])) := by
 have : k < Eo.length := hk
 rw [getElem?_map, getD_eq_getElem?_getD, getElem?_eq_getElem this]; rfl
def m_k (x40 x39 x35 x33 x27 x26 x24 x23 x22 : Option PV) : AU := Qo x22 x23 x24 none x26 x27 none none none none none x33 none x35 none none none x39 x40 none none
section
variable (KX : (KK X.w.params).In X.h₀)
include KX
theorem PJ {ms : List PV} {dr : List Nat} (G : AA X GG) (ok : A8 env BA) (hH : A.handled = none) (hA : A.depth < 900) (hu : A.units < 100)
  (hd0 : dr[0]? = some d0) (hdl : dr.length = 6) (hm : (am, AO.list ms) ∈ L) (hml : 0 < ms.length ∧ ms.length ≤ 24)
  (h : ∀ pmn : Option PV, WS X A env BA (m_k (some (.lst (An dr))) (some (.int size)) pdue (some cv) (some (.ref am)) (some (.ref aa)) pmn (some (.lst ((Ml d0).map .str))) (some (.str (tlF d0)))) (execs ((Bj X.w.params).drop 22) env) L Qn Qr Qb Qc) :
  WS X A env BA (m_k (some (.lst (An dr))) (some (.int size)) pdue (some cv) (some (.ref am)) (some (.ref aa)) none none none) (execs ((Bj X.w.params).drop 19) env) L Qn Qr Qb Qc := by
 have hz10 : (100000 : Nat) ≤ sizeLine := by decide
 have hd : (An dr)[(0 : Int).toNat]? = some (.int d0) := by
  rw [show (0 : Int).toNat = 0 from rfl, getElem?_map, hd0]; rfl
 refine Ab ?_
 left
 refine ⟨(by decide : 8 ≤ sizeLine), ?_⟩
 refine AJ (by walk_at "s") (by decide) ?_
 refine Ab ?_
 refine Br rfl ?_
 refine DP ?_
 left
 refine Bm (k := 0) .lst (by exact Cs 134351904 rt) (by exact Cs 0x400000000000000034a021020 rt) hd ?_
 left
 have e18 : ((d0 : Int) / 18 % 8).toNat = d0 / 18 % 8 := rfl
 have e144 : ((d0 : Int) / 144 % 8).toNat = d0 / 144 % 8 := rfl
 have e1152 : ((d0 : Int) / 1152 % 4).toNat = d0 / 1152 % 4 := rfl
 refine BV (q := .str (Do.getD (d0 / 18 % 8) [])) (emod_nonneg _ (by decide)) (Mm (by decide) (by decide)) (by
  rw [e18]
  exact I9 _ (mod_lt _ (by decide))) ?_
 left
 refine Bm (k := 0) .lst (by exact Cs 134351904 rt) (by exact Cs 0x400000000000000034a021020 rt) hd ?_
 left
 refine BV (q := .str (Do.getD (d0 / 144 % 8) [])) (emod_nonneg _ (by decide)) (Mm (by decide) (by decide)) (by
  rw [e144]
  exact I9 _ (mod_lt _ (by decide))) ?_
 left
 refine ⟨(by decide : 5 ≤ sizeLine), ?_⟩
 refine AJ (by walk_at "s") (by decide) ?_
 refine Ab ?_
 refine Br rfl ?_
 left
 refine ⟨(by decide : 4 ≤ sizeLine), ?_⟩
 left
 refine Bm (k := 0) .lst (by exact Cs 134351904 rt) (by exact Cs 0x400000000000000034a021020 rt) hd ?_
 left
 refine BV (q := .str (tlF d0)) (emod_nonneg _ (by decide)) (Mm (by decide) (by decide)) (by
  rw [e1152]
  exact MN _ (mod_lt _ (by decide))) ?_
 refine AJ (by walk_at "s") (by decide) ?_
 exact h _
end
def Fv (size : Nat) (m : Nat × Bool) : Int := if m.2 then (size : Int) else -1
theorem N8 (dr : List Nat) (hd : ∀ v ∈ dr, v ≤ 400000) (hl : dr.length ≤ 10) : ∀ j, j < (dr.map fun n : Nat => (n : Int)).length → InLong ((dr.map fun n : Nat => (n : Int)).getD j 0) ∧ InLong ((dr.map fun n : Nat => (n : Int)).take (j + 1)).sum := Gn 400000 (c := 10) (by rw [length_map]; exact hl) (by decide) fun x hx => by
 obtain ⟨v, hv, rfl⟩ := List.mem_map.mp hx
 exact ⟨Int.le_trans (by decide) (natCast_nonneg v), Int.ofNat_le.mpr (hd v hv)⟩
theorem MA (hs : size ≤ 3) (l : List (Nat × Bool)) (hl : l.length ≤ 24) : ∀ j, j < (l.map (Fv size)).length → InLong ((l.map (Fv size)).getD j 0) ∧ InLong ((l.map (Fv size)).take (j + 1)).sum := Gn 3 (c := 24) (by rw [length_map]; exact hl) (by decide) fun x hx => by
 obtain ⟨m, _, rfl⟩ := List.mem_map.mp hx
 unfold Fv
 split
 ·exact ⟨Int.le_trans (by decide) (natCast_nonneg size), Int.ofNat_le.mpr hs⟩
 ·decide
theorem Ke : ∀ l : List Nat, (l.map fun n : Nat => (n : Int)).sum = ((l.sum : Nat) : Int)
 | [] => rfl
 | a :: l => by rw [map_cons, sum_cons, Ke l, sum_cons]; exact GH 0x4a00348d0301420 rt
def m_l (x40 x39 x35 x33 x27 x26 x23 x22 x21 x20 : Option PV) : AU := Ql x20 x21 x22 x23 none none x26 x27 none none none none none x33 none x35 none none none x39 x40 none none
section
variable (KX : (KK X.w.params).In X.h₀)
include KX
theorem PK {dr : List Nat} (G : AA X GG) (ok : A8 env BA) (hH : A.handled = none) (hA : A.depth < 900) (hu : A.units < 100)
  (hs : size ≤ 3) (hd : ∀ v ∈ dr, v ≤ 400000) (hdl : dr.length = 6) (hm : (am, AO.list (ms.map AW)) ∈ L) (hml : 0 < ms.length ∧ ms.length ≤ 24)
  (h : WS X A env BA (m_l (some (.lst (An dr))) (some (.int size)) pdue (some cv) (some (.ref am)) (some (.ref aa)) phi pta (some (.int (dr.sum % ms.length : Nat))) (some (.int ((ms.take (dr.sum % ms.length)).map (Fv size)).sum))) (execs ((Bj X.w.params).drop 24) env) L Qn Qr Qb Qc) :
  WS X A env BA (m_l (some (.lst (An dr))) (some (.int size)) pdue (some cv) (some (.ref am)) (some (.ref aa)) phi pta none none) (execs ((Bj X.w.params).drop 22) env) L Qn Qr Qb Qc := by
 have hz10 : (100000 : Nat) ≤ sizeLine := by decide
 refine Ab ?_
 left
 refine H7 (ns := dr.map fun n : Nat => (n : Int)) hH (by rw [map_map]; exact .lst) (N8 dr hd (by exact Aq 0x28880188810421 rt hdl)) ?_
 rw [Ke]
 left
 refine Dm (ps := ms.map AW) (.ref hm) (by rw [length_map]; exact Aq 0x8000000000000000695032608800421 rt hml.2) ?_
 rw [length_map]
 left
 rw [← Int.natCast_emod]
 have hcut : dr.sum % ms.length < ms.length := mod_lt _ hml.1
 generalize dr.sum % ms.length = cut at h hcut ⊢
 refine Dw (tg := Ay) (fun _ => rfl) (Ak (by decide +kernel)) ?_
 refine Bz (tg := Ay) (by walk_at "c") trivial (fun m => ∃ q : Option PV, m = [none, q, some (.int size)]) ⟨none, rfl⟩ (AZ ?_)
 left
 refine ⟨_, rfl, ?_⟩
 left
 refine Bb (ps := ms.map AW) (.ref hm) (by rw [length_map]; exact Aa 0x250048c35010a00e08800422 rt hml.2 hz10) nofun ?_
 rw [Bf, Cv]
 refine ⟨_, _, .list, .lst, ((ms.take cut).map (Fv size)).map .int, by simp, .lst, by rw [length_map, length_map, length_take]; exact AB 0x25404280148c35010a00e08800423 rt hml.2 hz10 (min_le_right _ _), AK ?_, ?_⟩
 ·left
  refine H7 hH .lst (MA hs _ (by rw [length_take]; exact Aa 0x6089021200e08800422 rt hml.2 (min_le_right _ _))) ?_
  refine AJ (by walk_at "s") (by decide) ?_
  exact h
 ·rintro cenv cok hc1 hc2 i p q m' hp hq ⟨q3, rfl⟩
  rw [getElem?_map] at hp
  rw [map_map, getElem?_map] at hq
  obtain ⟨m, hm, rfl⟩ := Option.map_eq_some_iff.mp hp
  rw [hm] at hq
  cases hq
  right
  refine ⟨rfl, ⟨_, rfl⟩, ?_⟩
  left
  refine BV (k := 1) (by decide) (by decide) (q := .str (sgn m.2)) rfl ?_
  left
  ·intro hc
   have hb : m.2 = true := by
    cases hb : m.2 with
    | true => rfl
    | false => rw [hb] at hc; exact absurd hc (by decide)
   left
   exact ⟨rfl, by simp [Fv, hb]⟩
  ·intro hc
   have hb : m.2 = false := by
    cases hb : m.2 with
    | false => rfl
    | true => rw [hb] at hc; exact absurd rfl hc
   left
   exact ⟨rfl, by simp [Fv, hb]⟩
end
theorem DN (hhl : ∀ y ∈ hid, y.length ≤ 20) (htl : tl.length ≤ 20) (bs : List Bool) (s : Nat) (hs : s ≤ 4) (hb : bs.length ≤ 24) : (Bo bs s hid tl).length ≤ 2000 := by
 rw [Ku, length_append, length_flatten]
 have h1 := D5 (n := 24) (l := bs.zipIdx.map fun x => DL s x.1 ++ hid.getD (x.2 % 5) []) fun y hy => by
  obtain ⟨x, _, rfl⟩ := List.mem_map.mp hy
  rw [length_append]
  have a1 : (DL s x.1).length ≤ 4 := by unfold DL; split <;> simp; exact Aq 4653137646322721 rt hs
  have a2 : (hid.getD (x.2 % 5) []).length ≤ 20 := by
   rw [getD_eq_getElem?_getD]
   cases q : hid[x.2 % 5]? with
   | none => simp
   | some z => exact hhl z (mem_of_getElem? q)
  exact Aa 0x3044a000a11200908800422 rt a1 a2
 rw [length_map, List.length_zipIdx] at h1
 have h2 := mul_le_mul_right 24 hb
 exact AB 0x7d01950900304c19583802ac1d200d08800423 rt htl h1 h2
def m_m (x39 x35 x33 x27 x26 x23 x22 x21 x20 x19 x18 : Option PV) : AU := Qk x18 x19 x20 x21 x22 x23 none none x26 x27 none none none none none x33 none x35 none none none x39 none none none
section
variable (KX : (KK X.w.params).In X.h₀)
include KX
theorem PM {so : Int} (G : AA X GG) (ok : A8 env BA) (hH : A.handled = none) (hA : A.depth < 900) (hu : A.units < 100)
  (hs : 0 < size ∧ size ≤ 3) (hm : (am, AO.list (ms.map AW)) ∈ L) (hml : 0 < ms.length ∧ ms.length ≤ 24) (hh : hid.length = 5) (hhl : ∀ y ∈ hid, y.length ≤ 20) (htl : tl.length ≤ 20) (hcut : cut < ms.length)
  (h1 : Db (Bo (ms.map (·.2)) (size - 1) hid tl) = false) (h2 : Db (Bo (ms.map (·.2)) size hid tl) = true) (h3 : Db (Bo (ms.map (·.2)) (size + 1) hid tl) = false) (h4 : Db (Bo ((ms.drop cut ++ ms.take cut).map (·.2)) size hid tl) = decide (so = 0))
  (h : ∀ (ptx pno : Option PV) (at1 : Addr) (txs : List PV), WS X A env BA (m_m (some (.int size)) pdue (some cv) (some (.ref am)) (some (.ref aa)) (some (.lst (hid.map .str))) (some (.str tl)) (some (.int cut)) (some (.int so)) ptx pno) (execs ((Bj X.w.params).drop 28) env) ((at1, .list txs) :: L) Qn Qr Qb Qc) :
  WS X A env BA (m_m (some (.int size)) pdue (some cv) (some (.ref am)) (some (.ref aa)) (some (.lst (hid.map .str))) (some (.str tl)) (some (.int cut)) (some (.int so)) none none) (execs ((Bj X.w.params).drop 24) env) L Qn Qr Qb Qc := by
 have hz10 : (100000 : Nat) ≤ sizeLine := by decide
 refine Ab ?_
 refine Fz (tg := Ay) (fun _ => rfl) (Ak (by decide +kernel)) (En ok (by walk_at "m") rfl (by decide +kernel)) ?_
 refine Bz (tg := Ay) (by walk_at "c") trivial (fun m => ∃ q : Option PV, m = [none, q, some (.val (.ref aTx)), some (.lst (hid.map .str)), some (.ref am), some (.str tl)]) ⟨none, rfl⟩ (AZ ?_)
 left
 refine ⟨(by decide : 3 ≤ sizeLine), ?_⟩
 refine ⟨_, _, .tup, trivial, ([size - 1, size, size + 1].map fun s => Bo (ms.map (·.2)) s hid tl).map .str, by simp, trivial, by simp; exact Aq 0x206402061a808500421 rt hz10, JT fun at1 => ?_, ?_⟩
 ·refine AJ (by walk_at "s") (by decide) ?_
  left
  refine ⟨_, BJ F.slot_list_append rfl (.ref (.head _)), ?_⟩
  left
  refine ⟨_, rfl, ?_⟩
  left
  refine Bb (ps := ms.map AW) (.ref (.tail _ hm)) (by rw [length_map]; exact Aa 0x250048c35010a00e08800422 rt hml.2 hz10) nofun ?_
  rw [Bf, Dr]
  left
  refine ⟨_, rfl, ?_⟩
  left
  refine Bb (ps := ms.map AW) (.ref (.tail _ hm)) (by rw [length_map]; exact Aa 0x250048c35010a00e08800422 rt hml.2 hz10) nofun ?_
  rw [Bf, Cv]
  refine FF .lst .lst (by simp; exact FE 0x258a0016c0050b5004148c35010a00e08800424 rt hml.2 hz10 (sub_add_cancel (Aa 0x94012808421 rt hcut)) (min_le_left _ _)) ?_
  rw [← map_append]
  left
  refine Ff KX (marks := ms.drop cut ++ ms.take cut) G hH (by show A.depth < 1000; exact Aq 0x7d022a03c208a808421 rt hA) .lst (by simp; exact B7 0x3208ab4800a58028524020e08800423 rt hml.2 (sub_add_cancel (Aa 0x94012808421 rt hcut)) (min_le_left _ _)) (by exact Aq 0x288800c8800421 rt hs.2) hh hhl htl ?_
  left
  refine BR .here (by show 3 ≤ _; exact Aq 0x206402061a808500421 rt hz10) ⟨rfl, ?_⟩
  left
  have hL : (([size - 1, size, size + 1].map fun s => Bo (ms.map (·.2)) s hid tl).map PV.str ++ [PV.str (Bo ((ms.drop cut ++ ms.take cut).map (·.2)) size hid tl)]) = [Bo (ms.map (·.2)) (size - 1) hid tl, Bo (ms.map (·.2)) size hid tl, Bo (ms.map (·.2)) (size + 1) hid tl, Bo ((ms.drop cut ++ ms.take cut).map (·.2)) size hid tl].map PV.str := rfl
  rw [hL]
  generalize hg1 : Bo (ms.map (·.2)) (size - 1) hid tl = t1 at h1 ⊢
  generalize hg2 : Bo (ms.map (·.2)) size hid tl = t2 at h2 ⊢
  generalize hg3 : Bo (ms.map (·.2)) (size + 1) hid tl = t3 at h3 ⊢
  generalize hg4 : Bo ((ms.drop cut ++ ms.take cut).map (·.2)) size hid tl = t4 at h4 ⊢
  have hxs : ∀ x ∈ [t1, t2, t3, t4], x.length ≤ 2000 := by
   intro x hx
   simp only [mem_cons, List.not_mem_nil, or_false] at hx
   rcases hx with rfl | rfl | rfl | rfl
   ·rw [← hg1]; exact DN hhl htl _ _ (by exact Aa 0x84481012240208c8800422 rt hs.2 (sub_add_cancel (Aq 9046790267503649 rt hs.1))) (by rw [length_map]; exact Aq 0x60880608800421 rt hml.2)
   ·rw [← hg2]; exact DN hhl htl _ _ (by exact Aq 4653136572580897 rt hs.2) (by rw [length_map]; exact Aq 0x60880608800421 rt hml.2)
   ·rw [← hg3]; exact DN hhl htl _ _ (by exact Aq 0x840910000c8800421 rt hs.2) (by rw [length_map]; exact Aq 0x60880608800421 rt hml.2)
   ·rw [← hg4]; exact DN hhl htl _ _ (by exact Aq 4653136572580897 rt hs.2) (by rw [length_map, length_append, length_drop, length_take]; exact B7 0x608b4800a58028524020e08800423 rt hml.2 (sub_add_cancel (Aa 0x94012808421 rt hcut)) (min_le_left _ _))
  refine Kv (ps := [t1, t2, t3, t4].map PV.str) (.ref (.head _)) (by show 4 ≤ _; exact Aq 0x208402061a808500421 rt hz10) ?_
  left
  refine JE KX (xs := [t1, t2, t3, t4]) G hH (by show A.depth + 3 < 1000; exact Aq 0x3e8114644003c208a808421 rt hA) hxs (show 4 ≤ 100 by decide) ?_
  left
  have hv : [t1, t2, t3, t4].map E2 = [Bt, t2, Bt, if so = 0 then t4 else Bt] := by
   simp only [map_cons, List.map_nil, E2, h1, h2, h3, h4]
   by_cases h0 : so = 0 <;> simp [h0]
  rw [hv]
  refine DP ?_
  left
  refine Bm (k := 1) (ps := [t1, t2, t3, t4].map PV.str) (.ref (.head _)) (by exact Cs 1208093728 rt) (by exact Cs 0x400000000000000034a121020 rt) (q := .str t2) rfl ?_
  left
  ·intro h0
   rw [if_pos h0]
   left
   refine Bm (k := 3) (ps := [t1, t2, t3, t4].map PV.str) (.ref (.head _)) (by exact Cs 3355577376 rt) (by exact Cs 0x400000000000000034a321020 rt) (q := .str t4) rfl ?_
   left
   refine ⟨(by show 4 ≤ _; exact Aq 0x208402061a808500421 rt hz10), ?_⟩
   refine Fn (T := .str) (ps := [Bt, t2, Bt, t4].map PV.str) (qs := [Bt, t2, Bt, t4].map PV.str) (ds := [Bt, t2, Bt, t4].map Dt.str) (es := [Bt, t2, Bt, t4].map Dt.str) .lst .lst (AV (fun _ => .str) _) (AV (fun _ => .str) _) ?_ ?_ ?_ ?_ ?_
   ·intro x hx; obtain ⟨n, _, rfl⟩ := List.mem_map.mp hx; exact ⟨_, rfl⟩
   ·intro x hx; obtain ⟨n, _, rfl⟩ := List.mem_map.mp hx; exact ⟨_, rfl⟩
   ·show A.units + 0 + 1 < cLine
    have : (1000 : Nat) ≤ cLine := by decide
    exact Aa 0x909004400014fd0228023208a808422 rt hu this
   ·intro hne; exact absurd rfl hne
   ·intro _
    exact AC (h _ _ _ _)
  ·intro h0
   rw [if_neg h0]
   left
   refine ⟨(by show 4 ≤ _; exact Aq 0x208402061a808500421 rt hz10), ?_⟩
   refine Fn (T := .str) (ps := [Bt, t2, Bt, Bt].map PV.str) (qs := [Bt, t2, Bt, Bt].map PV.str) (ds := [Bt, t2, Bt, Bt].map Dt.str) (es := [Bt, t2, Bt, Bt].map Dt.str) .lst .lst (AV (fun _ => .str) _) (AV (fun _ => .str) _) ?_ ?_ ?_ ?_ ?_
   ·intro x hx; obtain ⟨n, _, rfl⟩ := List.mem_map.mp hx; exact ⟨_, rfl⟩
   ·intro x hx; obtain ⟨n, _, rfl⟩ := List.mem_map.mp hx; exact ⟨_, rfl⟩
   ·show A.units + 0 + 1 < cLine
    have : (1000 : Nat) ≤ cLine := by decide
    exact Aa 0x909004400014fd0228023208a808422 rt hu this
   ·intro hne; exact absurd rfl hne
   ·intro _
    exact AC (h _ _ _ _)
 ·rintro cenv cok hc1 hc2 i p q m' hp hq ⟨q3, rfl⟩
  have hps : [PV.int ((size : Int) - 1), PV.int size, PV.int ((size : Int) + 1)] = [size - 1, size, size + 1].map fun s : Nat => PV.int s := by
   have e1 : ((size - 1 : Nat) : Int) = (size : Int) - 1 := by exact GH 0x12246140ca90910014021 rt (sub_add_cancel (Aq 9046790267503649 rt hs.1))
   have e2 : ((size + 1 : Nat) : Int) = (size : Int) + 1 := by exact IW 0x1220600910019420 rt
   simp only [map_cons, List.map_nil, e1, e2]
  rw [hps, getElem?_map] at hp
  obtain ⟨s, hsx, rfl⟩ := Option.map_eq_some_iff.mp hp
  rw [map_map, getElem?_map, hsx] at hq
  cases hq
  have hs4 : s ≤ 10 := by
   have := mem_of_getElem? hsx
   simp at this
   omega
  right
  refine ⟨rfl, ⟨_, rfl⟩, ?_⟩
  left
  refine Ff KX G hH (by show A.depth < 1000; exact Aq 0x7d022a03c208a808421 rt hA) (.ref hm) (by exact Aq 0x3208a80608800421 rt hml.2) hs4 hh hhl htl ?_
  exact ⟨rfl, rfl⟩
end
def m_n (x39 x35 x33 x27 x26 x23 x22 x21 x17 : Option PV) : AU := Qj x17 none none none x21 x22 x23 none none x26 x27 none none none none none x33 none x35 none none none x39 none none none
section
variable (KX : (KK X.w.params).In X.h₀)
include KX
theorem PN (G : AA X GG) (ok : A8 env BA) (hH : A.handled = none) (hA : A.depth < 900) (hu : A.units < 100) (ic : FR X cv)
  (hm : (am, AO.list (ms.map AW)) ∈ L) (hml : 0 < ms.length ∧ ms.length ≤ 24) (hms : ∀ m ∈ ms, m.1 < 99) (hcut : cut < ms.length)
  (h : ∀ (ap : Addr) (ps : List PV), WS X A env BA (m_n (some (.int size)) pdue (some cv) (some (.ref am)) (some (.ref aa)) phi pta (some (.int cut)) (some (.ref ap))) (execs ((Bj X.w.params).drop 32) env) ((ap, .list ps) :: L) Qn Qr Qb Qc) :
  WS X A env BA (m_n (some (.int size)) pdue (some cv) (some (.ref am)) (some (.ref aa)) phi pta (some (.int cut)) none) (execs ((Bj X.w.params).drop 28) env) L Qn Qr Qb Qc := by
 have hz10 : (100000 : Nat) ≤ sizeLine := by decide
 have hR : recursionLimit = 1000 := rfl
 obtain ⟨⟨ka, kb, kc, rfl⟩, hcall⟩ := ic
 refine Ab ?_
 left
 refine G2 (.inl (.ref hm)) (by rw [length_map]; exact Aa 0x250048c35010a00e08800422 rt hml.2 hz10) fun ap => ?_
 left
 refine ⟨(by decide : 2 ≤ sizeLine), ?_⟩
 left
 refine Gw KX (px := .tup [.int 99, .str []]) (pk := .int 99) (hv := .int cut) (ps := ms.map AW) (lo := 0) (hi := cut) (f := fun _ => true) G (by exact Aa 0x12122001fa04548a1c208a808422 rt hA hR) (.head _) (.inr rfl) (.inr ⟨_, _, _, rfl⟩) (by rw [length_map]; exact Aa 0x94012808421 rt hcut) (zero_le _) (by rw [length_map]; exact Aq 0x1f408a80e08800421 rt hml.2) (Oq KX) ?_ ?_ ?_ ?_
 ·intro A' h1 h2 h3
  exact hcall A' _ 99 [] _ (by exact AB 0x12a0848802801fa04548a1c208a808423 rt hA hR h1) ⟨rfl, rfl⟩
 ·intro i p A' h1 h2 h3 h4
  rw [getElem?_map] at h4
  obtain ⟨y, hy, rfl⟩ := Option.map_eq_some_iff.mp h4
  have := hms y (mem_of_getElem? hy)
  refine hcall A' _ _ _ _ (by exact AB 0x12a0888802801fa04548a1c208a808423 rt hA hR h1) ?_
  exact Fb (fun h => ⟨rfl, rfl⟩) (fun h => absurd (show (y.1 : Int) < 99 by exact Aq 0x18c4540c83188a808421 rt this) h)
 ·intro i j _ _ hf; cases hf
 ·intro r h1 h2 h3 h4
  obtain rfl : r = cut := by
   rcases lt_or_ge r cut with q | q
   ·exact absurd (h4 r (le_refl _) q) (by decide)
   ·exact le_antisymm (Aa 0x94012800421 rt h2) (Aa 0x94012800421 rt q)
  refine ⟨_, .here, rfl, ?_⟩
  have hpl : ((ms.map AW).take r ++ PV.tup [.int 99, .str []] :: (ms.map AW).drop r).length = ms.length + 1 := by rw [length_append, length_cons, ← Nat.add_assoc, ← length_append, take_append_drop, length_map]
  left
  refine ⟨(by decide : 2 ≤ sizeLine), ?_⟩
  left
  refine Fc KX (px := .tup [.int (-1), .str []]) (pk := .int (-1)) (hv := .none) (ps := (ms.map AW).take r ++ PV.tup [.int 99, .str []] :: (ms.map AW).drop r) (lo := r + 1) (hi := ms.length + 1) (f := fun _ => true) G (by exact Aa 0x12122001fa04548a1c208a808422 rt hA hR) (.head _) (.inl ⟨rfl, hpl.symm⟩) (.inr ⟨_, _, _, rfl⟩) (by exact Aa 0x2024480012240814021 rt hpl) (by exact Aa 0x489004880012808421 rt hcut) (by exact Aa 0xfa04548424401220e08800422 rt hml.2 hpl) (Ot KX) ?_ ?_ ?_ ?_
  ·intro A' h1 h2 h3
   exact hcall A' _ (-1) [] _ (by exact AB 0x12a0848802801fa04548a1c208a808423 rt hA hR h1) ⟨rfl, rfl⟩
  ·intro i p A' h1 h2 h3 h4
   have hp : ∃ (x : Int) (s : List Nat), p = .tup [.int x, .str s] ∧ -1 < x := by
    rcases List.mem_append.mp (mem_of_getElem? h4) with q | q
    ·obtain ⟨m, _, rfl⟩ := List.mem_map.mp (mem_of_mem_take q)
     exact ⟨_, _, rfl, by exact Aq 278136950816 rt⟩
    ·rcases List.mem_cons.mp q with rfl | q
     ·exact ⟨_, _, rfl, by decide⟩
     ·obtain ⟨m, _, rfl⟩ := List.mem_map.mp (mem_of_mem_drop q)
      exact ⟨_, _, rfl, by exact Aq 278136950816 rt⟩
   obtain ⟨x, s, rfl, hx⟩ := hp
   refine hcall A' _ _ _ _ (by exact AB 0x12a0888802801fa04548a1c208a808423 rt hA hR h1) ?_
   exact Fb (fun h => ⟨rfl, rfl⟩) (fun h => absurd hx h)
  ·intro i j _ _ hf; exact hf
  ·intro r2 h1 h2 h3 h4
   obtain rfl : r2 = r + 1 := by
    rcases lt_or_ge (r + 1) r2 with q | q
    ·exact absurd (h3 (r + 1) (le_refl _) q) (by decide)
    ·exact le_antisymm (Aa 0x489020012240800421 rt q) (Aa 0x2424400090910000421 rt h1)
   refine ⟨_, .here, rfl, ?_⟩
   left
   refine ⟨_, rfl, ?_⟩
   left
   refine Bb (ps := ms.map AW) (.ref (.tail _ hm)) (by rw [length_map]; exact Aa 0x250048c35010a00e08800422 rt hml.2 hz10) nofun ?_
   rw [Bf, Cv]
   refine DP ?_
   left
   refine ⟨(by decide : 2 ≤ sizeLine), ?_⟩
   left
   refine ⟨(by decide : 2 ≤ sizeLine), ?_⟩
   left
   refine ⟨(by decide : 2 ≤ sizeLine), ?_⟩
   refine FF .lst .lst (by simp; exact AB 0x122228004280148c35010a00e08800423 rt hml.2 hz10 (min_le_right _ _)) ?_
   left
   refine ⟨_, rfl, ?_⟩
   left
   refine Bb (ps := ms.map AW) (.ref (.tail _ hm)) (by rw [length_map]; exact Aa 0x250048c35010a00e08800422 rt hml.2 hz10) nofun ?_
   rw [Bf, Dr]
   refine FF .lst .lst (by simp; exact FE 0x12c111400010b600415a80148c35010a00e08800424 rt hml.2 hz10 (min_le_left _ _) (sub_add_cancel (Aa 0x94012808421 rt hcut))) ?_
   have hT : ((ms.map AW).take r ++ [PV.tup [.int 99, .str []]]).length = r + 1 := by rw [length_append, length_take, length_map, min_eq_left (by omega)]; rfl
   have hE : ((ms.map AW).take r ++ PV.tup [.int 99, .str []] :: (ms.map AW).drop r).take (r + 1) ++ PV.tup [.int (-1), .str []] :: ((ms.map AW).take r ++ PV.tup [.int 99, .str []] :: (ms.map AW).drop r).drop (r + 1) = (ms.take r).map AW ++ [PV.tup [.int 99, .str []], PV.tup [.int (-1), .str []]] ++ (ms.drop r).map AW := by
    rw [show (ms.map AW).take r ++ PV.tup [.int 99, .str []] :: (ms.map AW).drop r = ((ms.map AW).take r ++ [PV.tup [.int 99, .str []]]) ++ (ms.map AW).drop r by simp, take_left' hT, drop_left' hT]
    simp
   rw [hE]
   have hD : ∀ L : Ai, CO L ((ms.take r).map AW ++ [PV.tup [.int 99, .str []], PV.tup [.int (-1), .str []]] ++ (ms.drop r).map AW) ((((ms.take r).map fun m => ((m.1 : Int), sgn m.2)) ++ [((99 : Int), ([] : List Nat)), (-1, [])] ++ (ms.drop r).map fun m => ((m.1 : Int), sgn m.2)).map fun x => Dt.seq true [.int x.1, .str x.2]) := fun L => by
    have := Dl (L := L) (f := fun x : Int × List Nat => PV.tup [.int x.1, .str x.2]) (g := fun x => Dt.seq true [.int x.1, .str x.2]) (((ms.take r).map fun m => ((m.1 : Int), sgn m.2)) ++ [((99 : Int), ([] : List Nat)), (-1, [])] ++ (ms.drop r).map fun m => ((m.1 : Int), sgn m.2)) (fun x _ => .tup (.cons .int (.cons .str .nil)))
    simpa [Function.comp_def] using this
   refine Fn (T := .tup2 .int .str) (qs := (ms.take r).map AW ++ [PV.tup [.int 99, .str []], PV.tup [.int (-1), .str []]] ++ (ms.drop r).map AW) (.ref (.head _)) .lst (hD _) (hD _) ?_ ?_ ?_ ?_ ?_
   ·intro x hx; obtain ⟨m, _, rfl⟩ := List.mem_map.mp hx; exact ⟨_, _, rfl, ⟨_, rfl⟩, ⟨_, rfl⟩⟩
   ·intro x hx; obtain ⟨m, _, rfl⟩ := List.mem_map.mp hx; exact ⟨_, _, rfl, ⟨_, rfl⟩, ⟨_, rfl⟩⟩
   ·show A.units + 1 + 1 < cLine
    have : (1000 : Nat) ≤ cLine := by decide
    exact Aa 0x909024400014fd0228023208a808422 rt hu this
   ·intro hne; exact absurd rfl hne
   ·intro _
    exact AC (h _ _)
end
theorem DC.mono {f : PV} {cls : String} {Q Q' : Ai → Prop} (h : DC X A f ps ks L l cls msg Q) (hq : ∀ L', Q L' → Q' L') : DC X A f ps ks L l cls msg Q' :=
 fun Z s E fv vs kvs P Vf Vs Ks O k => h Z s E fv vs kvs P Vf Vs Ks O fun e s' x => by
  cases x with | mk sr L' base fr zr q P e1 T hz hfr => exact k e s' ⟨sr, L', base, fr, zr, hq _ q, P, e1, T, hz, hfr⟩
theorem WXS.mono {t : Sem α} {cls : String} {Q Q' : QS} (h : WXS X A env nm m t L l cls msg Q) (hq : ∀ m' L', Q m' L' → Q' m' L') : WXS X A env nm m t L l cls msg Q' :=
 fun Z s E F O k => h Z s E F O fun e s' x => by
  cases x with | mk sr m' L' base fr zr q P e1 T hz hfr => exact k e s' ⟨sr, m', L', base, fr, zr, hq _ _ q, P, e1, T, hz, hfr⟩
def m_o (x39 x35 x33 x27 x26 x23 x22 x21 : Option PV) : AU := Qm x21 x22 x23 none none x26 x27 none none none none none x33 none x35 none none none x39 none none none
section
variable (KX : (KK X.w.params).In X.h₀)
include KX
theorem PO (G : AA X GG) (ok : A8 env BA) (hfr : A.frames = some [env]) (hf : env.frame = some env.locals) (hH : A.handled = none) (hA : A.depth < 900) (hu : A.units < 100) (ic : FR X cv)
  (hmM : (am, AO.list ((Al fst B (zl.map fst)).map AW)) ∈ L) (hmA : (aa, AO.list ((Al kz B zl).map zP)) ∈ L) (hmZ : ∀ z ∈ zl, (z.2, AO.list [.int z.1.1, .str (sgn z.1.2)]) ∈ L) (hl : zl.length ≤ 24) (hB : ∀ f ∈ zl, kz f < B) (hcut : cut < 24)
  (h : WS X A env BA (m_o (some (.int size)) pdue (some cv) (some (.ref am)) (some (.ref aa)) phi pta (some (.int cut))) (execs ((Bj X.w.params).drop 33) env) L Qn Qr Qb Qc) :
  WS X A env BA (m_o (some (.int size)) pdue (some cv) (some (.ref am)) (some (.ref aa)) phi pta (some (.int cut))) (execs ((Bj X.w.params).drop 32) env) L Qn Qr Qb Qc := by
 have hz10 : (100000 : Nat) ≤ sizeLine := by decide
 have hR : recursionLimit = 1000 := rfl
 obtain ⟨⟨ka, kb, kc, rfl⟩, hcall⟩ := ic
 have hzl : ∀ z ∈ Al kz B zl, z ∈ zl := fun z hz => BW hz
 have hml : (Al fst B (zl.map fst)).length = zl.length := by
  rw [CV _ _ _ (fun y hy => by obtain ⟨z, hz, rfl⟩ := List.mem_map.mp hy; exact hB z hz), length_map]
 have hsame := FU B zl
 generalize Al fst B (zl.map fst) = ms at hmM hml hsame
 generalize Al kz B zl = zs at hmA hzl hsame
 refine Ab ?_
 refine OK (msg := M7) hfr hf hH (by decide) (WXS.mono (Q := fun m' L' => m' = (m_o (some (.int size)) pdue (some (.lam ka kb kc)) (some (.ref am)) (some (.ref aa)) phi pta (some (.int cut))) ∧ L' = L) ?_ ?_)
 ·refine B5 (EV ?_)
  left
  ·intro _
   refine B5 (Ky (Ef ?_ rfl rfl rfl rfl) rfl)
   left
   refine ⟨(by decide : 2 ≤ sizeLine), ?_⟩
   left
   refine DC.mono (KN KX (pk := .int 0) (lo := -1 - (cut : Int)) G hfr hH (by exact Aa 0x12122001fa04548a1c208a808422 rt hA hR) (by exact Aq 0x881848209020 rt) (.inr ⟨_, _, _, rfl⟩) (Op KX) (fun A' h1 h2 h3 => hcall A' _ 0 _ _ (by exact AB 0x12a0848802801fa04548a1c208a808423 rt hA hR h1) ⟨rfl, rfl⟩)) ?_
   intro L' hL'
   exact ⟨rfl, hL'⟩
  ·intro _
   refine B5 (Ky (Ef ?_ rfl rfl rfl rfl) rfl)
   left
   refine ⟨(by decide : 2 ≤ sizeLine), ?_⟩
   left
   refine DC.mono (Jv KX (pk := .tup [.int 0, .str [41]]) (lo := -1 - (cut : Int)) G hfr hH (by exact Aa 0x12122001fa04548a1c208a808422 rt hA hR) (by exact Aq 0x881848209020 rt) (.inl rfl) (Pl KX) (fun A' h1 h2 h3 => rfl)) ?_
   intro L' hL'
   exact ⟨rfl, hL'⟩
 ·rintro m' L' ⟨rfl, rfl⟩
  refine ⟨⟨_, by walk_at "l"⟩, _, by walk_at "s", fun e => ?_⟩
  left
  refine Oj ?_
  left
  have huc : A.units + 2 < cLine := by
   have : (1000 : Nat) ≤ cLine := by decide
   exact Aa 0x122220014fd0228023208a808422 rt hu this
  refine NL huc (by decide) ?_
  left
  ·intro hne; exact absurd rfl hne
  ·intro _
   refine Oj ?_
   refine Nb rfl ?_
   refine Dw (tg := Ay) (fun _ => rfl) (Ak (by decide +kernel)) ?_
   refine Bz (tg := Ay) (by walk_at "c") trivial (fun m => ∃ q : Option PV, m = [none, q, some (.val (.type "list"))]) ⟨none, rfl⟩ (AZ ?_)
   left
   refine ⟨_, _, .list, .ref hmM, ms.map (fun m => PV.lst [.int m.1, .str (sgn m.2)]), by simp, .ref hmM, by rw [length_map]; exact AB 0x25404284148c35010a00e08800423 rt hl hz10 hml, AK ?_, ?_⟩
   ·left
    refine Fn (T := .lst2 .int .str) (ds := ms.map dM) (es := zs.map fun z => dM z.1) .lst (.ref hmA) (Dl _ fun m _ => .lst (.cons .int (.cons .str .nil))) (Dl _ fun z hz => .ref (hmZ z (hzl z hz)) (.cons .int (.cons .str .nil))) ?_ ?_ ?_ ?_ ?_
    ·intro x hx; obtain ⟨m, _, rfl⟩ := List.mem_map.mp hx; exact ⟨_, _, rfl, ⟨_, rfl⟩, ⟨_, rfl⟩⟩
    ·intro x hx; obtain ⟨m, _, rfl⟩ := List.mem_map.mp hx; exact ⟨_, _, rfl, ⟨_, rfl⟩, ⟨_, rfl⟩⟩
    ·show A.units + 1 + 1 < cLine
     have : (1000 : Nat) ≤ cLine := by decide
     exact Aa 0x909024400014fd0228023208a808422 rt hu this
    ·intro hne; exact absurd hsame.symm hne
    ·intro _
     refine Ll ?_
     refine AC (AC ?_)
     exact ⟨_, by repeat (first | exact Uns.here | apply Uns.there), h⟩
   ·rintro cenv cok hc1 hc2 i p q m' hp hq ⟨q3, rfl⟩
    rw [getElem?_map] at hp hq
    obtain ⟨m, hm, rfl⟩ := Option.map_eq_some_iff.mp hp
    rw [hm] at hq
    cases hq
    right
    refine ⟨rfl, ⟨_, rfl⟩, ?_⟩
    refine WE.freeze ?_
    left
    refine G2 (.inr rfl) (by show 2 ≤ _; exact Aq 0x204402061a808500421 rt hz10) fun a => ⟨_, _, _, rfl, .here, rfl, rfl⟩
end
def m_p (x39 x35 x27 x23 x22 x15 x14 : Option PV) : AU := Qi x14 x15 none none none none none none x22 x23 none none none x27 none none none none none none none x35 none none none x39 none none none
section
variable (KX : (KK X.w.params).In X.h₀)
include KX
theorem PP (G : AA X GG) (ok : A8 env BA) (hH : A.handled = none) (hA : A.depth < 900) (hu : A.units < 100)
  (hm : (am, AO.list (ms.map AW)) ∈ L) (hml : ms.length ≤ 24)
  (h : WS X A env BA (m_p (some (.int size)) pdue (some (.ref am)) phi pta (some (.lst (An (A7 true 0 ms)))) (some (.lst (An (A7 false 0 ms))))) (execs ((Bj X.w.params).drop 35) env) L Qn Qr Qb Qc) :
  WS X A env BA (m_p (some (.int size)) pdue (some (.ref am)) phi pta none none) (execs ((Bj X.w.params).drop 33) env) L Qn Qr Qb Qc := by
 have hz10 : (100000 : Nat) ≤ sizeLine := by decide
 refine Ab ?_
 refine Fz (tg := Bx) (fun _ => rfl) (Ak (by decide +kernel)) (En ok (by walk_at "m") rfl (by decide +kernel)) ?_
 refine ⟨[none, none, none], by walk_at "c", trivial, ?_⟩
 left
 refine Cb hH (.ref hm) ?_
 obtain ⟨J, hJ⟩ : ∃ J : Nat → AU → Ai → List PV → Prop, ∀ i m' L' x, J i m' L' x ↔ (∃ q1 q2 : Option PV, m' = [none, q1, q2]) ∧ L = L' ∧ x = An (A7 true 0 (ms.take i)) := ⟨_, fun _ _ _ _ => Iff.rfl⟩
 refine ⟨J, (hJ _ _ _ _).mpr ⟨⟨_, _, rfl⟩, rfl, rfl⟩, fun cenv cok hc1 hc2 i p m' L' x hp hj => ?_, fun m' L' x hj => ?_⟩
 ·obtain ⟨⟨q1, q2, rfl⟩, rfl, rfl⟩ := (hJ _ _ _ _).mp hj
  refine ⟨.ref hm, ?_⟩
  have hJ1 := hJ (i + 1)
  clear hj hJ
  obtain ⟨mp, hmp, rfl⟩ := Bl hp
  rw [getElem?_map] at hmp
  obtain ⟨mk, hmk, rfl⟩ := Option.map_eq_some_iff.mp hmp
  obtain ⟨c, b⟩ := mk
  have hnext := Fe true hmk
  have hacc : (A7 true 0 (ms.take i)).length ≤ 24 := by
   have := Di (ms.take i); unfold Bp at this; rw [length_take] at this; exact B7 0x18224085802b524020e08800423 rt hml this (min_le_right _ _)
  rw [hnext] at hJ1
  generalize A7 true 0 (ms.take i) = acc at hacc hJ1 ⊢
  refine AQ ?_ rfl rfl
  right
  right
  refine FP ?_
  left
  refine BV (k := 1) (by decide) (by decide) (q := .str (sgn b)) rfl ?_
  left
  ·intro he
   have hb : b = true := by cases b <;> first | rfl | exact absurd he (by decide)
   refine Cp ?_
   left
   refine ⟨by simp; exact Aa 0x2120c11200a061a808500422 rt hz10 hacc, (hJ1 _ _ _).mpr ⟨⟨_, _, rfl⟩, rfl, ?_⟩⟩
   rw [if_pos hb]; simp
  ·intro he
   have hb : ¬ b = true := by cases b <;> first | exact absurd rfl he | decide
   refine (hJ1 _ _ _).mpr ⟨⟨_, _, rfl⟩, rfl, ?_⟩
   rw [if_neg hb]; simp
 ·obtain ⟨⟨q1, q2, rfl⟩, rfl, rfl⟩ := (hJ _ _ _ _).mp hj
  refine ⟨.ref hm, ?_⟩
  rw [show (BT (ms.map AW)).length = ms.length by rw [Cd]; simp, take_length]
  refine AK ?_
  refine ⟨_, _, by walk_at "s", .inl rfl, ?_⟩
  clear hj hJ
  refine Ab ?_
  refine Fz (tg := Bx) (fun _ => rfl) (Ak (by decide +kernel)) (En ok (by walk_at "m") rfl (by decide +kernel)) ?_
  refine ⟨[none, none, none], by walk_at "c", trivial, ?_⟩
  left
  refine Cb hH (.ref hm) ?_
  obtain ⟨J, hJ⟩ : ∃ J : Nat → AU → Ai → List PV → Prop, ∀ i m' L' x, J i m' L' x ↔ (∃ q1 q2 : Option PV, m' = [none, q1, q2]) ∧ L = L' ∧ x = An (A7 false 0 (ms.take i)) := ⟨_, fun _ _ _ _ => Iff.rfl⟩
  refine ⟨J, (hJ _ _ _ _).mpr ⟨⟨_, _, rfl⟩, rfl, rfl⟩, fun cenv cok hc1 hc2 i p m' L' x hp hj => ?_, fun m' L' x hj => ?_⟩
  ·obtain ⟨⟨q1, q2, rfl⟩, rfl, rfl⟩ := (hJ _ _ _ _).mp hj
   refine ⟨.ref hm, ?_⟩
   have hJ1 := hJ (i + 1)
   clear hj hJ
   obtain ⟨mp, hmp, rfl⟩ := Bl hp
   rw [getElem?_map] at hmp
   obtain ⟨mk, hmk, rfl⟩ := Option.map_eq_some_iff.mp hmp
   obtain ⟨c, b⟩ := mk
   have hnext := Fe false hmk
   have hacc : (A7 false 0 (ms.take i)).length ≤ 24 := by
    have := Di (ms.take i); unfold Bp at this; rw [length_take] at this; exact B7 0x18228085802b524020e08800423 rt hml this (min_le_right _ _)
   rw [hnext] at hJ1
   generalize A7 false 0 (ms.take i) = acc at hacc hJ1 ⊢
   refine AQ ?_ rfl rfl
   right
   right
   refine FP ?_
   left
   refine BV (k := 1) (by decide) (by decide) (q := .str (sgn b)) rfl ?_
   left
   ·intro he
    have hb : b = false := by cases b <;> first | rfl | exact absurd he (by decide)
    refine Cp ?_
    left
    refine ⟨by simp; exact Aa 0x2120c11200a061a808500422 rt hz10 hacc, (hJ1 _ _ _).mpr ⟨⟨_, _, rfl⟩, rfl, ?_⟩⟩
    rw [if_pos hb]; simp
   ·intro he
    have hb : ¬ b = false := by cases b <;> first | exact absurd rfl he | decide
    refine (hJ1 _ _ _).mpr ⟨⟨_, _, rfl⟩, rfl, ?_⟩
    rw [if_neg hb]; simp
  ·obtain ⟨⟨q1, q2, rfl⟩, rfl, rfl⟩ := (hJ _ _ _ _).mp hj
   refine ⟨.ref hm, ?_⟩
   rw [show (BT (ms.map AW)).length = ms.length by rw [Cd]; simp, take_length]
   refine AK ?_
   refine ⟨_, _, by walk_at "s", .inl rfl, ?_⟩
   clear hj hJ
   exact h
end
def m_q (x39 x35 x27 x23 x22 x15 x14 x13 x12 x11 x10 x9 x8 : Option PV) : AU := mL8 x8 x9 x10 x11 x12 x13 x14 x15 none none none none none none x22 x23 none none none x27 none none none none none none none x35 none none none x39 none none none
section
variable (KX : (KK X.w.params).In X.h₀)
include KX
theorem PQ (G : AA X GG) (ok : A8 env BA) (hH : A.handled = none) (hA : A.depth < 900) (hu : A.units < 100)
  (hm : (am, AO.list (ms.map AW)) ∈ L) (hml : ms.length ≤ 24)
  (h : ∀ ar : Addr, WS X A env BA (m_q (some (.int size)) pdue (some (.ref am)) phi pta (some (.lst (An (A7 true 0 ms)))) (some (.lst (An (A7 false 0 ms)))) (some (.lst (An ((A7 false 0 ms ++ A7 true 0 ms) ++ (A7 false 0 ms ++ A7 true 0 ms))))) (some (.int (A7 false 0 ms).length)) (some (.int ms.length)) (some (.ref ar)) (some (.int 0)) (some (.int (A7 false 0 ms).length))) (execs ((Bj X.w.params).drop 37) env) ((ar, .list []) :: L) Qn Qr Qb Qc) :
  WS X A env BA (m_q (some (.int size)) pdue (some (.ref am)) phi pta (some (.lst (An (A7 true 0 ms)))) (some (.lst (An (A7 false 0 ms)))) none none none none none none) (execs ((Bj X.w.params).drop 35) env) L Qn Qr Qb Qc := by
 have hz10 : (100000 : Nat) ≤ sizeLine := by decide
 have hlen : (A7 true 0 ms).length + (A7 false 0 ms).length ≤ 24 := by
  have := Di ms; unfold Bp at this; exact AB 0x608a48008524020e08800422 rt hml this
 refine Ab ?_
 refine De ?_ rfl (J6 ok (.head _) (by walk_at "m"))
 refine MS ?_
 refine Id rfl ?_
 refine WE.freeze ?_
 left
 refine FF .lst .lst (by rw [length_map, length_map]; exact AB 0x212a00304524000a061a808500422 rt hz10 hlen) ?_
 left
 refine J5 .lst (by decide) (by decide) (by simp; exact AB 0x84a802383045240012061a808500422 rt hz10 hlen) fun a => ⟨_, _, _, rfl, .here, ?_⟩
 have erep : ∀ l : List PV, GX l 2 = l ++ l := fun l => by unfold GX; simp [replicate_succ]
 rw [erep]
 rw [show An (A7 false 0 ms) ++ An (A7 true 0 ms) ++ (An (A7 false 0 ms) ++ An (A7 true 0 ms)) = An ((A7 false 0 ms ++ A7 true 0 ms) ++ (A7 false 0 ms ++ A7 true 0 ms)) by simp only [map_append]]
 left
 refine Dm .lst (by rw [length_map]; exact Aa 0x20000000000000001a548c982250000421 rt hlen) ?_
 left
 refine Dm (.ref hm) (by rw [length_map]; exact Aq 0x8000000000000000695032608800421 rt hml) ?_
 left
 rw [length_map, length_map]
 refine ⟨(by decide : 3 ≤ sizeLine), ?_⟩
 refine AQ ?_ rfl rfl
 right
 right
 right
 show WS _ _ _ _ _ _ _ _ _ _ _
 refine Ab ?_
 refine BY rfl (Q2 ok (by walk_at "m") (by walk_at "m") (by walk_at "m") rfl rfl (by decide) rfl rfl rfl rfl rfl) ?_
 left
 refine Ci ?_
 left
 refine ⟨(by decide : 0 ≤ sizeLine), fun ar => ?_⟩
 left
 refine ⟨(by decide : 3 ≤ sizeLine), _, rfl, rfl, ?_⟩
 refine Cy ⟨_, _, by walk_at "s", .inl rfl, ?_⟩
 refine Cy ⟨_, _, by walk_at "s", .inl rfl, ?_⟩
 refine Cy ⟨_, _, by walk_at "s", .inl rfl, ?_⟩
 show WS _ _ _ _ _ _ _ _ _ _ _
 exact h ar
end
def m_r (x39 x35 x27 x23 x22 x15 x14 x13 x12 x11 x10 x9 x8 x7 x6 : Option PV) : AU := mL6 x6 x7 x8 x9 x10 x11 x12 x13 x14 x15 none none none none none none x22 x23 none none none x27 none none none none none none none x35 none none none x39 none none none
section
variable (KX : (KK X.w.params).In X.h₀)
include KX
theorem PR {T : Nat} {op : List Nat} {P K O N : Nat → Nat} (G : AA X GG) (ok : A8 env BA) (hH : A.handled = none) (hA : A.depth < 900) (hu : A.units < 100)
  (hm : (am, AO.list (ms.map AW)) ∈ L) (hml : ms.length ≤ 24) (hbo : ms.length ≤ 24) (hs : 1 ≤ size ∧ size ≤ 3) (hb : Bou cl op ms.length size T P K O N)
  (h : ∀ q1 q2 q3 q4 : Option PV, WS X A env BA (m_r (some (.int size)) pdue (some (.ref am)) phi pta (some (.lst (An (op)))) (some (.lst (An (cl)))) (some (.lst (An ((cl ++ op) ++ (cl ++ op))))) (some (.int cl.length)) (some (.int ms.length)) (some (.ref ar)) q1 q2 q3 q4) (execs ((Bj X.w.params).drop 38) env) ((ar, .list (An ((List.range T).map N))) :: L) Qn Qr Qb Qc) :
  WS X A env BA (m_r (some (.int size)) pdue (some (.ref am)) phi pta (some (.lst (An (op)))) (some (.lst (An (cl)))) (some (.lst (An ((cl ++ op) ++ (cl ++ op))))) (some (.int cl.length)) (some (.int ms.length)) (some (.ref ar)) (some (.int 0)) (some (.int cl.length)) none none) (execs ((Bj X.w.params).drop 37) env) ((ar, .list []) :: L) Qn Qr Qb Qc := by
 have hz10 : (100000 : Nat) ≤ sizeLine := by decide
 have hR : recursionLimit = 1000 := rfl
 have hlen := hb.len
 refine Ab ?_
 refine BM (tg := Ay) trivial ?_ (fun _ => rfl)
 left
 refine Dh (by exact Aq 0x8190000000000000001a510c20 rt) (by exact Aq 0x4000000000000000695032608800421 rt hml) ?_
 rw [toNat_natCast]
 obtain ⟨J, hJ⟩ : ∃ J : Nat → QS, ∀ i m' L', J i m' L' ↔ ∃ q3 q4 : Option PV, m' = (m_r (some (.int size)) pdue (some (.ref am)) phi pta (some (.lst (An (op)))) (some (.lst (An (cl)))) (some (.lst (An ((cl ++ op) ++ (cl ++ op))))) (some (.int cl.length)) (some (.int ms.length)) (some (.ref ar)) (some (.int (K (min i T)))) (some (.int ((cl.length + O (min i T) : Nat) : Int))) q3 q4) ∧ L' = (ar, .list (An ((List.range (min i T)).map N))) :: L := ⟨_, fun _ _ _ => Iff.rfl⟩
 refine ⟨J, (hJ _ _ _).mpr ⟨none, none, ?_, ?_⟩, fun i p m' L' hp hj => ?_, fun m' L' hj => ?_⟩
 ·rw [Nat.zero_min, hb.k0, hb.o0]; rfl
 ·rw [Nat.zero_min]; rfl
 ·obtain ⟨q3, q4, rfl, rfl⟩ := (hJ _ _ _).mp hj
  refine ⟨trivial, ?_⟩
  have hJ1 := hJ (i + 1)
  clear hj hJ
  right
  refine Ab ?_
  left
  ·intro hlt
   have hiT : i < T := by
    refine Decidable.byContradiction fun hn => ?_
    rw [min_eq_right (by exact Aa 291380514718753 rt hn), hb.all] at hlt
    exact Aq 7974952240129 rt hlt
   rw [min_eq_left (by exact Aa 0x94012808421 rt hiT)] at hlt ⊢
   rw [min_eq_left (show i + 1 ≤ T by exact Aa 0x484880012808421 rt hiT)] at hJ1
   have hat := hb.at_ i hiT
   have hltO := hb.lt i hiT
   have hol := hb.ol i
   have hol1 := hb.ol (i + 1)
   have hos := hb.os i
   have hks := hb.ks i
   refine Ab ?_
   left
   refine Bm (k := (K i : Int)) .lst (by exact Aq 8690732064 rt) (by exact B7 0x8000000000000000695632246b19028524020e08800423 rt hml hlen hlt) (q := .int (P i)) (by rw [toNat_natCast, getElem?_map, hat]; rfl) ?_
   left
   have hpl : (An ((cl ++ op) ++ (cl ++ op))).length = 2 * ms.length := by simp; exact Ez 0x28464a009020025250014421 rt hlen
   obtain ⟨f, hf⟩ : ∃ f : Nat → Bool, ∀ j p, ((cl ++ op) ++ (cl ++ op))[j]? = some p → (f j = true ↔ p < P i) := Pt _ fun p => p < P i
   have hfv : ∀ j, cl.length ≤ j → j < ms.length → (f j = true ↔ j < cl.length + O (i + 1)) := fun j h1 h2 => by
    have h3 : op[j - cl.length]? = some (op[j - cl.length]'(by exact FE 0x9605686004152c215250014023 rt hlen h2 (sub_add_cancel (Aa 0x94012800421 rt h1)))) := getElem?_eq_getElem _
    have h4 : ((cl ++ op) ++ (cl ++ op))[j]? = some (op[j - cl.length]'(by exact FE 0x9605686004152c215250014023 rt hlen h2 (sub_add_cancel (Aa 0x94012800421 rt h1)))) := by
     rw [getElem?_append_left (by rw [length_append]; exact B7 0x94016152c215250014022 rt hlen h2), getElem?_append_right h1]; exact h3
    rw [hf j _ h4, ← hltO _ _ h3]
    exact ⟨fun ha => B7 0xb481415a0215250014022 rt (sub_add_cancel (Aa 0x94012800421 rt h1)) ha, fun ha => B7 0xb40569028215250010422 rt (sub_add_cancel (Aa 0x94012800421 rt h1)) ha⟩
   refine Ga KX (lo := cl.length + O i) (hi := ms.length) (f := f) G (by exact Aa 0x2501fa04548a1c208a808422 rt hA hR) .lst (.inr rfl) (.inl rfl) (by exact Aa 9324170198466625 rt hpl) (by exact B7 0xa5a0004ac015250010422 rt hlen hol) (by exact Aa 0x2000000000000000d2a428119220e08800822 rt hml hpl) (LL KX) ?_ ?_ ?_
   ·intro j p A' h1 h2 h3 h4
    rw [getElem?_map] at h4
    obtain ⟨n, hn, rfl⟩ := Option.map_eq_some_iff.mp h4
    have hq := hf j n hn
    show Bu X A' .Lt (.int (n : Int)) (.int (P i : Int)) _ _ _
    refine Fb (fun h => ⟨rfl, ?_⟩) (fun h => ⟨rfl, ?_⟩)
    ·exact hq.mpr (by exact Aa 0x250148d0320421 rt h)
    ·rw [eq_false_iff]; intro h5; have := hq.mp h5; exact Aa 0xe9404291a06430402 rt h this
   ·intro j j' h1 h2 h3 h4
    rw [eq_false_iff] at h4 ⊢
    intro h5
    exact h4 ((hfv j (by exact AB 0x29005250000421 rt h1) (by exact AB 0xa405490852800422 rt h2 h3)).mpr (by have := (hfv j' (by exact B7 0x2d005a8015250000422 rt h1 h2) h3).mp h5; exact B7 0xb501015a8090852800422 rt h2 this))
   ·intro r h1 h2 h3 h4
    obtain rfl : r = cl.length + O (i + 1) := by
     rcases lt_trichotomy r (cl.length + O (i + 1)) with q | q | q
     ·have e1 := h4 r (le_refl _) (by exact FE 0xa60568030214ac015250010423 rt hlen hol1 q)
      have e2 := (hfv r (by exact AB 0x29005250000421 rt h1) (by exact FE 0xa60568030214ac015250010423 rt hlen hol1 q)).mpr q
      rw [e1] at e2; cases e2
     ·exact q
     ·have e1 := h3 _ (by exact B7 0x21604ac005240814021 rt hos) q
      have e2 := (hfv _ (by exact Aa 9932374048 rt) (by exact B7 0x95a80142d400852800422 rt h2 q)).mp e1
      exact le_antisymm (AB 0x2500501280250008401 rt e2) (AB 0xa4a0005250008421 rt q)
    have e1 : (((cl.length + O (i + 1) : Nat) : Int) - ((cl.length + O i : Nat) : Int)) = ((N i : Nat) : Int) := by exact q40 0x50d2b00d0b00c255240814021 rt hos
    left
    refine ⟨_, BJ F.slot_list_append rfl (.ref (.head _)), ?_⟩
    left
    rw [e1]
    have hrl : (An ((List.range i).map N)).length = i := by simp
    have hT := hb.t
    refine BR .here (by exact FE 0x258042c01530415a82148c35010a00e08800425 rt hml hz10 hiT hrl hT) ⟨rfl, ?_⟩
    have eap : An ((List.range i).map N) ++ [PV.int (N i : Int)] = An ((List.range (i + 1)).map N) := by rw [range_succ]; simp
    rw [eap]
    have hNb : ∀ k, k ≤ i → N k ≤ 24 := fun k hk => by have h6 := hb.os k; have h7 := hb.ol (k + 1); exact l60 0x608d029600b58058a08524020e08800424 rt hml hlen h6 h7
    refine Ab ?_
    refine BY rfl (MM ok (by walk_at "m") (by walk_at "m") rfl (by decide) rfl rfl rfl rfl) ?_
    left
    refine ⟨_, rfl, ?_⟩
    left
    refine Bb (.ref (.head _)) (by rw [length_map, length_map, length_range]; exact B7 0x1212280042c015a82148c35010a00e08800424 rt hml hz10 hiT hT) nofun ?_
    have epk : pick (An ((List.range (i + 1)).map N)) (some (-(size : Int))) none none = ((((range' (i + 1 - size) (i + 1 - (i + 1 - size))).map N).map fun (n : Nat) => (n : Int)).map PV.int) := by
     rw [MG _ _ hs.1, length_map, length_map, length_range, ← map_drop, ← map_drop, List.range_eq_range', List.drop_range']
     simp
    rw [epk]
    have hwl : ∀ k ∈ range' (i + 1 - size) (i + 1 - (i + 1 - size)), N k ≤ 24 := fun k hk => hNb k (by have := List.mem_range'_1.mp hk; exact B7 0x5a00122c09500415240808422 rt this.2 (sub_add_cancel (Aa 0x489020012240800421 rt (sub_le _ _))))
    have hwn : (range' (i + 1 - size) (i + 1 - (i + 1 - size))).length ≤ 3 := by rw [List.length_range']; exact le_trans (Nat.sub_le_of_le_add (by rw [Nat.add_comm size]; exact Nat.le_add_of_sub_le (le_refl _))) hs.2
    generalize range' (i + 1 - size) (i + 1 - (i + 1 - size)) = w at hwl hwn hks ⊢
    left
    refine H7 hH .lst ?_ ?_
    ·exact Gn 24 (by simpa using hwn) (by decide) fun x hx => by
      obtain ⟨n, hn, rfl⟩ := List.mem_map.mp hx
      obtain ⟨k, hk, rfl⟩ := List.mem_map.mp hn
      have := hwl k hk; exact ⟨Aq 8925079473184 rt, Aq 0x1820d031e08800421 rt this⟩
    ·have esum : (((w.map N).map fun (n : Nat) => (n : Int)).sum) = (((w.map N).sum : Nat) : Int) := by rw [Gc N w, map_map]; rfl
     rw [esum]
     left
     refine ⟨(by decide : 2 ≤ sizeLine), _, rfl, rfl, ?_⟩
     refine Cy ⟨_, _, by walk_at "s", .inl rfl, ?_⟩
     refine Cy ⟨_, _, by walk_at "s", .inl rfl, ?_⟩
     show WS _ _ _ _ _ _ _ _ _ _ _
     have ek : (K i : Int) + (((w.map N).sum : Nat) : Int) = (K (i + 1) : Int) := by rw [hks]; simp
     rw [ek]
     exact AC (AC ((hJ1 _ _).mpr ⟨_, _, rfl, rfl⟩))
  ·intro hge
   have hiT : T ≤ i := by
    refine Decidable.byContradiction fun hn => ?_
    rw [min_eq_left (by exact Aa 291380513670177 rt hn)] at hge
    have := hb.more i (by exact Aa 291414873408545 rt hn)
    exact Aa 0xe9404291a06430402 rt hge this
   rw [min_eq_right hiT] at hge ⊢
   rw [min_eq_right (show T ≤ i + 1 by exact Aa 0x91204012800421 rt hiT)] at hJ1
   exact AC (AC ((hJ1 _ _).mpr ⟨_, _, rfl, rfl⟩))
 ·obtain ⟨q3, q4, rfl, rfl⟩ := (hJ _ _ _).mp hj
  refine ⟨trivial, ?_⟩
  rw [show (rng 0 1 ms.length).length = ms.length by simp [rng], min_eq_right hb.t]
  exact AC (h _ _ _ _)
end
noncomputable def Dk (ds : List Nat) (d0 : Nat) : List Int := ds.map fun d : Nat => (d : Int) - d0
theorem Gk (d0 k : Nat) (f : Dt → Bool) (hf : ∀ x, f x = true ↔ x = Dt.int k) : ∀ ds : List Nat, ((Dk ds d0).map Dt.int).countP f = ds.count (d0 + k)
 | [] => rfl
 | d :: ds => by
  have ih := Gk d0 k f hf ds
  unfold Dk at ih ⊢
  rw [map_cons, map_cons, List.countP_cons, ih, count_cons]
  have h := hf (Dt.int ((d : Int) - d0))
  by_cases hd : d = d0 + k
  ·rw [if_pos (h.mpr (congrArg Dt.int (by exact Ez 0x50d2340c255240814021 rt hd))), if_pos (by simp [hd])]
  ·rw [if_neg (fun h2 => hd (by have := h.mp h2; injection this; exact Ez 0x52408128691a0612c021 rt ‹_›)), if_neg (by simp [hd])]
def m_s (x39 x35 x27 x23 x22 x15 x13 x11 x10 x5 : Option PV) : AU := mL5 x5 none none none none x10 x11 none x13 none x15 none none none none none none x22 x23 none none none x27 none none none none none none none x35 none none none x39 none none none
section
variable (KX : (KK X.w.params).In X.h₀)
include KX
theorem PS {r : Nat} {op : List Nat} (G : AA X GG) (ok : A8 env BA) (hH : A.handled = none) (hA : A.depth < 900) (hu : A.units < 100)
  (hm : (am, AO.list (ms.map AW)) ∈ L) (hml : ms.length ≤ 24) (hs : 1 ≤ size ∧ size ≤ 3) (hd : ds.head? = some d0) (hdl : ds.length ≤ 6) (hr : d0 + r ∈ ds) (hr' : ∀ d ∈ ds, d ≤ d0 + r) (hr3 : r ≤ 100)
  (h : WS X A env BA (m_s (some (.int size)) (some (.lst (An ds))) (some (.ref am)) phi pta (some (.lst (An (op)))) (some (.lst (An ((cl ++ op) ++ (cl ++ op))))) (some (.int ms.length)) (some (.ref ar)) (some (.lst ((Dk ds d0).map .int)))) (execs ((Bj X.w.params).drop 40) env) ((ar, .list (An ((List.range (r + size)).map fun t => ds.count (d0 + t)))) :: L) Qn Qr Qb Qc) :
  WS X A env BA (m_s (some (.int size)) (some (.lst (An ds))) (some (.ref am)) phi pta (some (.lst (An (op)))) (some (.lst (An ((cl ++ op) ++ (cl ++ op))))) (some (.int ms.length)) (some (.ref ar)) none) (execs ((Bj X.w.params).drop 38) env) ((ar, .list (An ((List.range (r + size)).map fun t => ds.count (d0 + t)))) :: L) Qn Qr Qb Qc := by
 have hz10 : (100000 : Nat) ≤ sizeLine := by decide
 have hR : recursionLimit = 1000 := rfl
 have hds : 0 < ds.length := List.length_pos_of_mem hr
 refine Ab ?_
 refine Br (FK ok (by walk_at "m")) ?_
 refine Dw (tg := Ay) (fun _ => rfl) (Ak (by decide +kernel)) ?_
 refine Bz (by walk_at "c") trivial (fun m => ∃ q : Option PV, m = [none, q, some (.lst (An ds))]) ⟨none, rfl⟩ (AZ ?_)
 left
 refine ⟨An ds, _, .list, .lst, (Dk ds d0).map .int, by simp [Dk], .lst, by simp [Dk]; exact Aa 0x250048c35010a00988800422 rt hdl hz10, AK ?_, ?_⟩
 ·left
  refine Dw (tg := Ay) (fun _ => rfl) (Ak (by decide +kernel)) ?_
  refine Bz (tg := Ay) (by walk_at "c") trivial (fun m => ∃ q : Option PV, m = [none, q, some (.lst ((Dk ds d0).map .int))]) ⟨none, rfl⟩ ?_
  left
  refine Qz (ns := Dk ds d0) hH .lst (by simp [Dk]; exact Aq 9011640255153185 rt hds) fun r' hm1 hm2 => ?_
  obtain rfl : r' = (r : Int) := by
   have e1 := hm2 (r : Int) (List.mem_map.mpr ⟨_, hr, by exact GH 0x48d034a00309420 rt⟩)
   obtain ⟨d, hd1, hd2⟩ := List.mem_map.mp hm1
   have := hr' d hd1
   exact Int.le_antisymm (l31 0x50e8352408006891a0612c022 rt hd2 this) (l11 0x51031d10318421 rt e1)
  left
  refine Dh (by exact Aa 0x81a460200000000000000034a21a02400421 rt hs.1) (by exact Aa 0x10000000000000001a540d23010641152008c8800422 rt hs.2 hr3) ?_
  have eN : ((r : Int) + size).toNat = r + size := by exact Ez 0x5240812869181032c021 rt (toNat_of_nonneg (Aa 0x2069180041a02400421 rt hs.1))
  rw [eN]
  left
  refine ⟨An ((List.range (r + size)).map fun t => ds.count (d0 + t)), by simp [rng], trivial, by simp; exact AB 0x5212002861a8085004641152008c8800423 rt hs.2 hr3 hz10, AK ?_, ?_⟩
  ·refine Fn (T := .int) (ds := ((List.range (r + size)).map fun t => ds.count (d0 + t)).map fun n : Nat => Dt.int n) (es := ((List.range (r + size)).map fun t => ds.count (d0 + t)).map fun n : Nat => Dt.int n) (.ref (.head _)) .lst (AV (fun n => .int) _) (AV (fun n => .int) _) ?_ ?_ ?_ ?_ ?_
   ·intro x hx; obtain ⟨n, _, rfl⟩ := List.mem_map.mp hx; exact ⟨_, rfl⟩
   ·intro x hx; obtain ⟨n, _, rfl⟩ := List.mem_map.mp hx; exact ⟨_, rfl⟩
   ·show A.units + 0 + 1 < cLine
    have : (1000 : Nat) ≤ cLine := by decide
    exact Aa 0x909004400014fd0228023208a808422 rt hu this
   ·intro hne; exact absurd rfl hne
   ·intro _
    exact AC h
  ·rintro cenv cok hc1 hc2 i p q m' hp hq ⟨q3, rfl⟩
   obtain ⟨hi, rfl⟩ := D3 hp
   have hq' : q = .int (ds.count (d0 + i) : Nat) := by
    simp [hi] at hq
    exact hq.symm
   subst hq'
   rw [show (0 : Int) + (i : Int) * 1 = (i : Int) by exact IW 0x40d0309c0401420 rt]
   right
   refine ⟨rfl, ⟨_, rfl⟩, ?_⟩
   left
   refine ⟨_, BJ F.slot_list_count F.type_list_count .lst, ?_⟩
   left
   refine JP (T := .int) (d := .int i) (es := (Dk ds d0).map Dt.int) .lst .int (AV (fun n => .int) _) ⟨_, rfl⟩ ?_ ?_ fun f hf => ?_
   ·intro x hx; obtain ⟨n, _, rfl⟩ := List.mem_map.mp hx; exact ⟨_, rfl⟩
   ·show A.units + 0 + 1 < cLine
    have : (1000 : Nat) ≤ cLine := by decide
    exact Aa 0x909004400014fd0228023208a808422 rt hu this
   ·rw [Gk d0 i f hf]
    exact ⟨rfl, rfl⟩
 ·rintro cenv cok hc1 hc2 i p q m' hp hq ⟨q3, rfl⟩
  rw [getElem?_map] at hp
  obtain ⟨d, hdi, rfl⟩ := Option.map_eq_some_iff.mp hp
  have hq' : q = .int ((d : Int) - d0) := by
   simp [Dk, hdi] at hq
   exact hq.symm
  subst hq'
  right
  refine ⟨rfl, ⟨_, rfl⟩, ?_⟩
  left
  refine Bm (k := 0) .lst (by exact Cs 134351904 rt) (by exact Cs 0x400000000000000034a021020 rt) (q := .int (d0 : Int)) (by rw [List.head?_eq_getElem?] at hd; simp [hd]) ?_
  left
  exact ⟨rfl, rfl⟩
end
def m_t (x39 x27 x23 x22 x15 x13 x11 x5 x4 x3 : Option PV) : AU := mL3 x3 x4 x5 none none none none none x11 none x13 none x15 none none none none none none x22 x23 none none none x27 none none none none none none none none none none none x39 none none none
section
variable (KX : (KK X.w.params).In X.h₀)
include KX
theorem PT {ns : List Int} {op : List Nat} {C : Nat → Nat} (gv : FQ X la ns) (ok : A8 env BA) (hH : A.handled = none) (hcode : env.code = .ref DE) (hqual : env.qual = ofString "law" ++ ".<locals>.") (htab : ER ∈ L) (hA : A.depth < 900) (hu : A.units < 100)
  (hm : (am, AO.list (ms.map AW)) ∈ L) (hml : ms.length ≤ 24) (hs : 1 ≤ size ∧ size ≤ 3) (hl1 : cl.length + op.length = ms.length) (hl2 : cl.length = size * op.length) (hdl : dp.length ≤ 6)
  (hC : ∀ k one, op[k]? = some one → C one ≤ size * k ∧ ∀ i p, cl[i]? = some p → (p ≤ one ↔ i < C one))
  (h : WS X A env BA (m_t (some (.int size)) (some (.ref am)) phi pta (some (.lst (An (op)))) (some (.lst (An ((cl ++ op) ++ (cl ++ op))))) (some (.int ms.length)) (some (.lst (dp.map .int))) (some (.lst (An (op.map C)))) (some (.lst ((Ey dp).map fun x => .tup [.int x.1, .int x.2])))) (execs ((Bj X.w.params).drop 42) env) L Qn Qr Qb Qc) :
  WS X A env BA (m_t (some (.int size)) (some (.ref am)) phi pta (some (.lst (An (op)))) (some (.lst (An ((cl ++ op) ++ (cl ++ op))))) (some (.int ms.length)) (some (.lst (dp.map .int))) none none) (execs ((Bj X.w.params).drop 40) env) L Qn Qr Qb Qc := by
 have G := gv.gg
 have hz10 : (100000 : Nat) ≤ sizeLine := by decide
 have hR : recursionLimit = 1000 := rfl
 refine Ab ?_
 refine Fz (tg := Bx) (fun _ => rfl) (Ak (by decide +kernel)) (En ok (by walk_at "m") rfl (by decide +kernel)) ?_
 refine Bz (tg := Bx) (by walk_at "c") trivial (fun m => ∃ q1 q2 : Option PV, m = [none, q1, q2, some (.val (.ref aBR)), some (.int ms.length), some (.lst (An ((cl ++ op) ++ (cl ++ op)))), some (.int size)]) ⟨none, none, rfl⟩ ?_
 left
 refine Cb hH (.lst : LV L (.lst (An op)) _) ?_
 refine ⟨An (op.map C), by simp [BT], .lst, by simp; exact B7 0xb501630d40428028524020e08800423 rt hml hl1 hz10, AK ⟨_, _, by walk_at "s", .inl rfl, ?_⟩, ?_⟩
 ·refine Ab ?_
  refine MY (tg := Ay) (fun _ => rfl) (Ak (by decide +kernel)) (En ok (by walk_at "m") rfl (by decide +kernel)) ?_
  refine ⟨[none, none, none, some (.val (.type "range")), some (.lst (dp.map .int))], by walk_at "c", trivial, ?_⟩
  left
  refine Dm (ps := dp.map .int) .lst (by rw [length_map]; exact Aq 0x8000000000000000695032188800421 rt hdl) ?_
  rw [length_map]
  left
  refine Dh (by exact Aq 0x8190000000000000001a510c20 rt) (by exact Aq 0x4000000000000000695032188800421 rt hdl) ?_
  rw [toNat_natCast]
  obtain ⟨J, hJ⟩ : ∃ J : Nat → AU → Ai → List PV → Prop, ∀ i m' L' x, J i m' L' x ↔ (∃ q1 q2 : Option PV, m' = [none, q1, q2, some (.val (.type "range")), some (.lst (dp.map .int))]) ∧ L = L' ∧ x = (((List.range i).flatMap fun j => (List.range j).map fun i => (dp.getD i 0, dp.getD j 0)) : List (Int × Int)).map fun x => PV.tup [.int x.1, .int x.2] := ⟨_, fun _ _ _ _ => Iff.rfl⟩
  have hfl : ∀ k, k ≤ 6 → ((List.range k).flatMap fun j => (List.range j).map fun i => (dp.getD i 0, dp.getD j 0)).length ≤ 36 := fun k hk => by
   have : ∀ n, n ≤ 6 → ((List.range n).flatMap fun j => (List.range j).map fun i => (dp.getD i 0, dp.getD j 0)).length ≤ n * 6 := fun n => by
    induction n with
    | zero => intro _; simp
    | succ n ih =>
     intro hn
     have := ih (by exact Aq 0xc4400c40910000421 rt hn)
     rw [range_succ, flatMap_append, length_append, List.flatMap_singleton, length_map, length_range]; exact Aa 0x24400c742400418e9004c40910000422 rt hn this
   have := this k hk
   exact Aa 0x4822a40831d200988801822 rt hk this
  refine ⟨J, (hJ _ _ _ _).mpr ⟨⟨none, none, rfl⟩, rfl, rfl⟩, ?_, ?_⟩
  ·rintro cenv cok hc1 hc2 i p m' L' x hp hj
   obtain ⟨⟨p1, p2, rfl⟩, rfl, rfl⟩ := (hJ _ _ _ _).mp hj
   refine ⟨trivial, ?_⟩
   have hJ1 := hJ (i + 1)
   clear hj hJ
   obtain ⟨hi, rfl⟩ := D3 hp
   have hfi := hfl i (by exact Aa 0x1889021210988800422 rt hdl hi)
   rw [show ∀ g : Nat → List (Int × Int), (List.range (i + 1)).flatMap g = (List.range i).flatMap g ++ g i from fun g => by rw [range_succ, flatMap_append, List.flatMap_singleton]] at hJ1
   generalize ((List.range i).flatMap fun j => (List.range j).map fun i => (dp.getD i 0, dp.getD j 0)) = acc at hJ1 hfi ⊢
   rw [show (0 : Int) + (i : Int) * 1 = (i : Int) by exact IW 0x40d0309c0401420 rt]
   right
   refine D6 ?_
   refine Fh (tg := Ay) (fun _ => rfl) trivial ?_
   left
   refine Dh (by exact Aq 0x8190000000000000001a510c20 rt) (by exact Aa 0x400000000000000069523221210988800422 rt hdl hi) ?_
   rw [toNat_natCast]
   obtain ⟨J2, hJ2⟩ : ∃ J : Nat → AU → Ai → List PV → Prop, ∀ j m' L2 x, J j m' L2 x ↔ (∃ q2 : Option PV, m' = [none, some (.int i), q2, some (.val (.type "range")), some (.lst (dp.map .int))]) ∧ L = L2 ∧ x = (acc ++ (List.range j).map fun k => (dp.getD k 0, dp.getD i 0)).map fun x => PV.tup [.int x.1, .int x.2] := ⟨_, fun _ _ _ _ => Iff.rfl⟩
   refine ⟨J2, (hJ2 _ _ _ _).mpr ⟨⟨_, rfl⟩, rfl, by simp⟩, ?_, ?_⟩
   ·intro j p m' L2 x hp hj
    obtain ⟨⟨q3, rfl⟩, rfl, rfl⟩ := (hJ2 _ _ _ _).mp hj
    refine ⟨trivial, ?_⟩
    have hJ3 := hJ2 (j + 1)
    clear hj
    obtain ⟨hj1, rfl⟩ := D3 hp
    have hnx : ((acc ++ (List.range (j + 1)).map fun k => (dp.getD k 0, dp.getD i 0)).map fun x : Int × Int => PV.tup [.int x.1, .int x.2]) = ((acc ++ (List.range j).map fun k => (dp.getD k 0, dp.getD i 0)).map fun x : Int × Int => PV.tup [.int x.1, .int x.2]) ++ [PV.tup [.int (dp.getD j 0), .int (dp.getD i 0)]] := by
     rw [range_succ]; simp
    rw [hnx] at hJ3
    have hfl : ((acc ++ (List.range j).map fun k => (dp.getD k 0, dp.getD i 0)).map fun x : Int × Int => PV.tup [.int x.1, .int x.2]).length ≤ sizeLine := by
     rw [length_map, length_append, length_map, length_range]; exact FE 0x4b16002981084822ac014282148c35010a00988800425 rt hdl hz10 hi hfi hj1
    clear hnx
    rw [show (0 + (j : Int) * 1) = (j : Int) by exact IW 0x40d0309c0401420 rt]
    generalize ((acc ++ (List.range j).map fun k => (dp.getD k 0, dp.getD i 0)).map fun x : Int × Int => PV.tup [.int x.1, .int x.2]) = acc2 at hJ3 hfl ⊢
    right
    refine D6 ?_
    refine Cp ?_
    left
    refine Bm (k := (j : Int)) .lst (by exact Aq 8690732064 rt) (by exact AB 0x800000000000000069543225410a1210988800423 rt hdl hi hj1) (q := .int (dp.getD j 0)) (by rw [toNat_natCast, getElem?_map, getD_eq_getElem?_getD, getElem?_eq_getElem (show j < dp.length by exact AB 0x95050a0852808422 rt hi hj1)]; rfl) ?_
    left
    refine Bm (k := (i : Int)) .lst (by exact Aq 8690732064 rt) (by exact Aa 0x800000000000000069523221210988800422 rt hdl hi) (q := .int (dp.getD i 0)) (by rw [toNat_natCast, getElem?_map, getD_eq_getElem?_getD, getElem?_eq_getElem (show i < dp.length by exact Aa 0x94052808421 rt hi)]; rfl) ?_
    left
    refine ⟨(by decide : 2 ≤ sizeLine), ?_⟩
    exact ⟨hfl, (hJ3 _ _ _).mpr ⟨⟨_, rfl⟩, rfl, rfl⟩⟩
   ·intro m' L2 x hj
    obtain ⟨⟨q3, rfl⟩, rfl, rfl⟩ := (hJ2 _ _ _ _).mp hj
    rw [D4]
    exact ⟨trivial, (hJ1 _ _ _).mpr ⟨⟨_, _, rfl⟩, rfl, rfl⟩⟩
  ·intro m' L' x hj
   obtain ⟨⟨p1, p2, rfl⟩, rfl, rfl⟩ := (hJ _ _ _ _).mp hj
   rw [D4]
   refine ⟨trivial, AK ⟨_, _, by walk_at "s", .inl rfl, ?_⟩⟩
   exact h
 ·rintro cenv cok hc1 hc2 i p q m' hp hq ⟨q1, q2, rfl⟩
  obtain ⟨mp, hmp, rfl⟩ := Bl hp
  rw [getElem?_map] at hmp
  obtain ⟨one, hone, rfl⟩ := Option.map_eq_some_iff.mp hmp
  obtain ⟨hC1, hC2⟩ := hC i one hone
  have hio : i < op.length := (List.getElem?_eq_some_iff.mp hone).1
  have hq' : q = .int (C one : Nat) := by
   simp [hone] at hq
   exact hq.symm
  subst hq'
  refine AQ ?_ rfl rfl
  right
  right
  refine ⟨rfl, ⟨_, _, rfl⟩, ?_⟩
  left
  refine DI (.inl (by exact ⟨Cs 0x2240000000000000001a511020 rt, Cs 0x800000000000000034a221020 rt⟩)) ?_
  left
  refine DI (.inl (by exact ⟨Aq 0x103800000000000000034a22202400421 rt hs.1, Aq 0x100000000000000006950320c8800421 rt hs.2⟩)) ?_
  left
  refine H8 (c := DE) (P := aTab) (qual := Km) htab (by rw [hc1]; exact hcode) (by rw [hc2, hqual]; rfl) cok.globals (by decide +kernel) rfl gv.bm ?_
  generalize hcv : PV.lam _ _ _ = cv
  have hkey : (∃ a b c, cv = .lam a b c) ∧ ∀ (A : Around) (L : Ai) (x : Int) (Q : QE), A.depth < recursionLimit → Q (.int (2 * x)) L → As X A cv [.int x] [] L Q := by
   refine ⟨⟨_, _, _, hcv.symm⟩, fun A L x Q hA hQ => ?_⟩
   rw [← hcv]
   refine Iq (bs := [(ofString "place", .int x)]) (m₀ := [some (.int x)]) hA (Ak (by decide +kernel)) ?_ [ofString "place"] rfl (by decide +kernel) (by walk_at "b") (by walk_at "i") (by decide +kernel) rfl rfl ?_
   ·intro qual pm ctv doc c
    exact FY KX fun v1 S => by with_unfolding_all rfl
   ·intro env2 ok2
    left
    exact DI (.inl (by exact ⟨Cs 0x2240000000000000001a511020 rt, Cs 0x800000000000000034a221020 rt⟩)) hQ
  clear hcv
  obtain ⟨⟨ka, kb, kc, rfl⟩, hcall⟩ := hkey
  left
  have hpl : (An ((cl ++ op) ++ (cl ++ op))).length = 2 * ms.length := by simp; exact Ez 0x28464a009020025250014421 rt hl1
  have hsk : size * i ≤ cl.length := by rw [hl2]; exact Nat.mul_le_mul_left _ (by exact Aa 0x94012808421 rt hio)
  obtain ⟨f, hf⟩ : ∃ f : Nat → Bool, ∀ j p, ((cl ++ op) ++ (cl ++ op))[j]? = some p → (f j = true ↔ one < p) := Pt _ fun p => one < p
  have hfv : ∀ j, ms.length ≤ j → j < ms.length + size * i → (f j = true ↔ ms.length + C one ≤ j) := fun j h1 h2 => by
   have h3 : cl[j - ms.length]? = some (cl[j - ms.length]'(by exact FE 0x96054b6004142c0a0852800423 rt hsk h2 (sub_add_cancel (Aa 0x94012800421 rt h1)))) := getElem?_eq_getElem _
   have h4 : ((cl ++ op) ++ (cl ++ op))[j]? = some (cl[j - ms.length]'(by exact FE 0x96054b6004142c0a0852800423 rt hsk h2 (sub_add_cancel (Aa 0x94012800421 rt h1)))) := by
    rw [getElem?_append_right (by rw [length_append]; exact B7 0xb4a0005a8015250010422 rt hl1 h1), length_append, hl1, getElem?_append_left (by exact FE 0x96054b6004142c0a0852800423 rt hsk h2 (sub_add_cancel (Aa 0x94012800421 rt h1)))]; exact h3
   have h5 := hC2 _ _ h3
   rw [hf j _ h4, ← Nat.not_le, h5, Nat.not_lt, Nat.le_sub_iff_add_le h1, Nat.add_comm]
  have ehi : ((ms.length : Int) + (size : Int) * (i : Int)) = ((ms.length + size * i : Nat) : Int) := by push_cast; rfl
  rw [ehi]
  refine Fa KX (lo := ms.length) (hi := ms.length + size * i) (f := f) G (by exact Aa 0x2501fa04548a1c208a808422 rt hA hR) .lst (.inr rfl) (.inr ⟨_, _, _, rfl⟩) (by exact FE 0x2d8a0010c0054232c505250010423 rt hl1 hpl hsk) (by exact Aa 9932374048 rt) (by exact Aa 0x2000000000000000d2a428119220e08800822 rt hml hpl) (Jj KX) ?_ ?_ ?_
  ·intro j p A' h1 h2 h3 h4
   rw [getElem?_map] at h4
   obtain ⟨n, hn, rfl⟩ := Option.map_eq_some_iff.mp h4
   have hq := hf j n hn
   refine hcall A' _ _ _ (by exact AB 0x12a0848802801fa04548a1c208a808423 rt hA hR h1) ?_
   refine Fb (fun h => ⟨rfl, ?_⟩) (fun h => ⟨rfl, ?_⟩)
   ·exact hq.mpr (by exact Aa 0x250148c4640c4620441 rt h)
   ·rw [eq_false_iff]; intro h5; have := hq.mp h5; exact Aa 0xe940449188c8188c430402 rt h this
  ·intro j j' h1 h2 h3 h4
   exact (hfv j' (by exact AB 0xa401490052800422 rt h1 h2) h3).mpr (by have := (hfv j h1 (by exact B7 0xb501015a8090852800422 rt h2 h3)).mp h4; exact B7 0x95a80042d400052800422 rt h2 this)
  ·intro r h1 h2 h3 h4
   obtain rfl : r = ms.length + C one := by
    rcases lt_trichotomy r (ms.length + C one) with q | q | q
    ·have e1 := h4 r (le_refl _) (by exact B7 0x95814142c0a0852800422 rt hC1 q)
     have e2 := (hfv r (by exact Aa 0x94012800421 rt h1) (by exact B7 0x95814142c0a0852800422 rt hC1 q)).mp e1
     exact le_antisymm (AB 0xa481005240808421 rt q) (AB 0xa4a0005250000421 rt e2)
    ·exact q
    ·have e1 := h3 (ms.length + C one) (by exact Aa 9932374048 rt) q
     have e2 := (hfv _ (by exact Aa 9932374048 rt) (by exact B7 0xa481690050b480215240800422 rt h2 q)).mpr (le_refl _)
     rw [e1] at e2; cases e2
   have e1 : (((ms.length + C one : Nat) : Int) - (ms.length : Int)) = ((C one : Nat) : Int) := by exact GH 0x48d034a00309420 rt
   left
   rw [e1]
   exact ⟨rfl, rfl⟩
end
def m_u (x39 x27 x23 x22 x5 x4 x3 x2 : Option PV) : AU := mL2 x2 x3 x4 x5 none none none none none none none none none none none none none none none none x22 x23 none none none x27 none none none none none none none none none none none x39 none none none
section
variable (KX : (KK X.w.params).In X.h₀)
include KX
theorem PU {ah : List Nat} {ps : List (Int × Int)} (G : AA X GG) (ok : A8 env BA) (hH : A.handled = none) (hA : A.depth < 900) (hu : A.units < 100)
  (hm : (am, AO.list (ms.map AW)) ∈ L) (hml : ms.length ≤ 24) (hs : 1 ≤ size ∧ size ≤ 3) (hal : ah.length ≤ 24) (hab : ∀ c ∈ ah, c ≤ 100) (hpl : ps.length ≤ 36) (hpb : ∀ x ∈ ps, -100 ≤ x.1 ∧ x.1 ≤ 100 ∧ -100 ≤ x.2 ∧ x.2 ≤ 100)
  (he : (ah.zipIdx.map fun x : Nat × Nat => (size : Int) * x.2 - x.1).sum = (ps.map fun x => By size x.1 x.2).sum)
  (h : ∀ qa : Option PV, WS X A env BA (m_u (some (.int size)) (some (.ref am)) phi pta (some (.lst (dp.map .int))) (some (.lst (An ah))) (some (.lst (ps.map fun x => .tup [.int x.1, .int x.2]))) qa) (execs ((Bj X.w.params).drop 44) env) L Qn Qr Qb Qc) :
  WS X A env BA (m_u (some (.int size)) (some (.ref am)) phi pta (some (.lst (dp.map .int))) (some (.lst (An ah))) (some (.lst (ps.map fun x => .tup [.int x.1, .int x.2]))) none) (execs ((Bj X.w.params).drop 42) env) L Qn Qr Qb Qc := by
 have hz10 : (100000 : Nat) ≤ sizeLine := by decide
 have hR : recursionLimit = 1000 := rfl
 refine Ab ?_
 left
 refine Dw (tg := Ay) (fun _ => rfl) (Ak (by decide +kernel)) ?_
 refine Bz (tg := Ay) (by walk_at "c") trivial (fun m => ∃ q1 q2 : Option PV, m = [none, q1, q2, some (.val (.builtin "max")), some (.int size)]) ⟨none, none, rfl⟩ (AZ ?_)
 left
 refine ⟨_, _, .list, .lst, (ps.map fun x => By size x.1 x.2).map .int, by simp, .lst, by simp; exact Aa 0x9401230d40428021208a800422 rt hpl hz10, AK ?_, ?_⟩
 ·left
  refine H7 hH .lst (Gn (c := 36) 300 (by simpa using hpl) (by decide) fun x hx => ?_) ?_
  ·obtain ⟨y, hy, rfl⟩ := List.mem_map.mp hx
   obtain ⟨b1, b2, b3, b4⟩ := hpb y hy
   unfold By
   split <;> omega
  ·left
   refine Dw (tg := Bx) (fun _ => rfl) (Ak (by decide +kernel)) ?_
   refine Bz (tg := Bx) (by walk_at "c") trivial (fun m => ∃ q1 q2 : Option PV, m = [none, q1, q2, some (.int size)]) ⟨none, none, rfl⟩ ?_
   left
   refine Cb hH (.lst : LV L (.lst (An ah)) _) ?_
   refine ⟨(ah.zipIdx.map fun x : Nat × Nat => (size : Int) * x.2 - x.1).map .int, by simp [BT], .lst, by simp; exact Aa 0x250048c35010a00e08800422 rt hal hz10, AK ?_, ?_⟩
   ·left
    refine H7 hH .lst (Gn (c := 24) 300 (by simpa using hal) (by decide) fun x hx => ?_) ?_
    ·obtain ⟨⟨c, k⟩, hy, rfl⟩ := List.mem_map.mp hx
     have h1 := List.mem_zipIdx_iff_getElem?.mp hy
     have h2 := hab c (mem_of_getElem? h1)
     have h3 : k < ah.length := (List.getElem?_eq_some_iff.mp h1).1
     have h4 : size * k ≤ 3 * 24 := mul_le_mul hs.2 (by exact Aa 0x6089021210e08800422 rt hal h3)
     have h5 : ((size * k : Nat) : Int) = (size : Int) * k := by simp
     show -((300 : Nat) : Int) ≤ (size : Int) * k - c ∧ (size : Int) * k - c ≤ ((300 : Nat) : Int)
     exact ⟨l21 0x81d029608a310e8919423208a800422 rt h2 h5, l21 0x4b0451a47408e881961820cc800422 rt h4 h5⟩
    ·left
     ·intro hne; exact absurd he hne
     ·intro _
      exact AC (h _)
   ·rintro cenv cok hc1 hc2 i p q m' hp hq ⟨q1, q2, rfl⟩
    obtain ⟨mp, hmp, rfl⟩ := Bl hp
    rw [getElem?_map] at hmp
    obtain ⟨c, hc, rfl⟩ := Option.map_eq_some_iff.mp hmp
    have hq' : q = .int ((size : Int) * i - c) := by
     simp [getElem?_zipIdx, hc] at hq
     exact hq.symm
    subst hq'
    refine AQ ?_ rfl rfl
    right
    right
    refine ⟨rfl, ⟨_, _, rfl⟩, ?_⟩
    left
    refine DI (.inl (by exact ⟨Aq 0x103800000000000000034a22202400421 rt hs.1, Aq 0x100000000000000006950320c8800421 rt hs.2⟩)) ?_
    left
    exact ⟨rfl, rfl⟩
 ·rintro cenv cok hc1 hc2 i p q m' hp hq ⟨q1, q2, rfl⟩
  rw [getElem?_map] at hp
  obtain ⟨⟨a, b⟩, hx, rfl⟩ := Option.map_eq_some_iff.mp hp
  have hq' : q = .int (By size a b) := by
   simp [hx] at hq
   exact hq.symm
  subst hq'
  obtain ⟨b1, b2, b3, b4⟩ := hpb _ (mem_of_getElem? hx)
  refine AQ ?_ rfl rfl
  right
  right
  refine ⟨rfl, ⟨_, _, rfl⟩, ?_⟩
  left
  ·intro hab
   left
   refine Qy hH ⟨rfl, congrArg PV.int ?_⟩
   have hab' : a ≤ b := hab
   show (if (0 : Int) < (size : Int) - b + a then (size : Int) - b + a else 0) = By size a b
   unfold By
   rw [if_pos hab']
   split <;> omega
  ·intro hab
   left
   refine Qy hH ⟨rfl, congrArg PV.int ?_⟩
   have hab' : ¬ a ≤ b := hab
   show (if (0 : Int) < (size : Int) + 1 - a + b then (size : Int) + 1 - a + b else 0) = By size a b
   unfold By
   rw [if_neg hab']
   split <;> omega
end
def m_v (x39 x27 x23 x22 x5 : Option PV) : AU := mL5 x5 none none none none none none none none none none none none none none none none x22 x23 none none none x27 none none none none none none none none none none none x39 none none none
section
variable (KX : (KK X.w.params).In X.h₀)
include KX
theorem PW (G : AA X GG) (ok : A8 env BA) (hH : A.handled = none) (hA : A.depth < 900) (hu : A.units < 100)
  (hm : (am, AO.list (ms.map AW)) ∈ L) (hml : ms.length ≤ 24) (hs : 1 ≤ size ∧ size ≤ 3) (hh : hid.length = 5) (hhl : ∀ y ∈ hid, y.length ≤ 20) (htl : tl.length ≤ 20)
  (hE : (esc 0 false (BL (Bo (ms.map (·.2)) 1 hid tl))).map (fun u => ((u.1 : Int), u.2)) = Bg (Bi (ms.map (·.2)) hid tl))
  (hF : (Bi (ms.map (·.2)) hid tl).filter (fun u => u == [40] || u == [41]) = ms.map fun m => sgn m.2)
  (hul : (Bi (ms.map (·.2)) hid tl).length ≤ 300)
  (h0 : (ms.map (·.2))[at0]? = some false) (hno : ∀ j < at0, (ms.map (·.2))[j]? ≠ some false) (hgrow : ∀ k, ((List.range k).foldl (fun st j => BD (ms.map (·.2)) size st (j + 1)) (at0, replicate at0 0)).2.length ≤ 1000)
  (hback : (Fk (ms.map (·.2)) size at0).map (fun n : Nat => (n : Int)) = dp)
  (h : ∀ L', (∀ x ∈ L, x ∈ L') → Qr (.bool true) L') :
  WS X A env BA (m_v (some (.int size)) (some (.ref am)) (some (.lst (hid.map .str))) (some (.str tl)) (some (.lst (dp.map .int)))) (execs ((Bj X.w.params).drop 44) env) L Qn Qr Qb Qc := by
 have hz10 : (100000 : Nat) ≤ sizeLine := by decide
 have hR : recursionLimit = 1000 := rfl
 have hcl : (1000 : Nat) ≤ cLine := by decide
 have hbl : (ms.map (·.2)).length = ms.length := by simp
 refine Ab ?_
 left
 refine Ff KX (marks := ms) (slope := 1) G hH (by show A.depth < 1000; exact Aq 0x7d022a03c208a808421 rt hA) (.ref hm) (by exact Aq 0x3208a80608800421 rt hml) (by decide) hh hhl htl ?_
 left
 have htx := DN hhl htl (ms.map (·.2)) 1 (by exact Cs 4430364704 rt) (by exact Aa 0x6089021220e08800422 rt hml hbl)
 refine GM KX G hH (by show A.depth + 1 < 1000; exact Aq 0x3e8114244003c208a808421 rt hA) htx ?_
 refine AJ (by walk_at "s") (by decide) ?_
 have hel := BG (BL (Bo (ms.map (·.2)) 1 hid tl)) 0 false
 refine Ab ?_
 refine Br rfl ?_
 refine WE.freeze ?_
 have hseen : (esc 0 false (BL (Bo (ms.map (·.2)) 1 hid tl))).map B0 = (Bg (Bi (ms.map (·.2)) hid tl)).map fun x => PV.tup [.int x.1, .str x.2] := by
  rw [← hE, map_map]; rfl
 have hsl : ((Bg (Bi (ms.map (·.2)) hid tl)).map fun x => PV.tup [.int x.1, .str x.2]).length ≤ 300 := by
  simp [Bg]; exact hul
 refine JF (p2 := ⟨0, 0, 0, 0⟩) (d := dd A.in1.in1) (ps := (Bg (Bi (ms.map (·.2)) hid tl)).map fun x => PV.tup [.int x.1, .str x.2]) hH (by exact Aa 0x84812c115200a061a808500422 rt hz10 hsl) (AR _) (by walk_at "l") ?_ rfl rfl rfl rfl rfl rfl rfl rfl
 left
 refine Gz KX G hH (by show A.depth < 1000; exact Aq 0x7d022a03c208a808421 rt hA) (by show A.depth < 1000; exact Aq 0x7d022a03c208a808421 rt hA) ⟨hseen, trivial, fun a => ⟨_, _, _, rfl, .here, ?_⟩⟩
 left
 refine JD KX (marks := ms) G hH (by show A.depth < 1000; exact Aq 0x7d022a03c208a808421 rt hA) (.ref hm) (by exact Aq 0x3208a80608800421 rt hml) hh hhl htl ?_
 refine Fn (T := .tup2 .int .str) (ds := (Bg (Bi (ms.map (·.2)) hid tl)).map fun x => Dt.seq true [.int x.1, .str x.2]) (es := (Bg (Bi (ms.map (·.2)) hid tl)).map fun x => Dt.seq true [.int x.1, .str x.2]) .lst .lst (AV (fun x => .tup (.cons .int (.cons .str .nil))) _) (AV (fun x => .tup (.cons .int (.cons .str .nil))) _) ?_ ?_ ?_ ?_ ?_
 ·intro x hx; obtain ⟨m, _, rfl⟩ := List.mem_map.mp hx; exact ⟨_, _, rfl, ⟨_, rfl⟩, ⟨_, rfl⟩⟩
 ·intro x hx; obtain ⟨m, _, rfl⟩ := List.mem_map.mp hx; exact ⟨_, _, rfl, ⟨_, rfl⟩, ⟨_, rfl⟩⟩
 ·show A.units + 1 + 1 < cLine
  exact Aa 0x909024400014fd0228023208a808422 rt hu hcl
 ·intro hne; exact absurd rfl hne
 intro _
 refine AC ?_
 clear hE hseen
 have hpm : (Bg (Bi (ms.map (·.2)) hid tl)).map (·.2) = Bi (ms.map (·.2)) hid tl := by
  unfold Bg
  rw [map_map]
  exact List.zipIdx_map_fst _ _
 generalize Bg (Bi (ms.map (·.2)) hid tl) = ps at hsl hpm ⊢
 rw [← hpm] at hF
 clear hpm
 rw [length_map] at hsl
 left
 refine Dw (tg := Ay) (fun _ => rfl) (Ak (by decide +kernel)) ?_
 refine ⟨[none, none, none], by walk_at "c", trivial, AZ ?_⟩
 left
 obtain ⟨J, hJ⟩ : ∃ J : Nat → AU → Ai → List PV → Prop, ∀ i m' L' x, J i m' L' x ↔ (∃ q1 q2 : Option PV, m' = [none, q1, q2]) ∧ L = L' ∧ x = (((ps.take i).map (·.2)).filter (fun u => u == [40] || u == [41])).map PV.str := ⟨_, fun _ _ _ _ => Iff.rfl⟩
 refine ⟨_, _, .list, .lst, J, (hJ _ _ _ _).mpr ⟨⟨_, _, rfl⟩, rfl, rfl⟩, fun cenv cok hc1 hc2 i p m' L' x hp hj => ?_, fun m' L' x hj => ?_⟩
 ·obtain ⟨⟨q1, q2, rfl⟩, rfl, rfl⟩ := (hJ _ _ _ _).mp hj
  refine ⟨.lst, ?_⟩
  have hJ1 := hJ (i + 1)
  clear hj hJ
  rw [getElem?_map] at hp
  obtain ⟨⟨n, u⟩, hu2, rfl⟩ := Option.map_eq_some_iff.mp hp
  rw [take_add_one, hu2] at hJ1
  have hacc : (((ps.take i).map (·.2)).filter (fun u => u == [40] || u == [41])).length ≤ 300 := by
   refine le_trans (length_filter_le _ _) ?_
   rw [length_map, length_take]; exact Aa 0x25822a40848029608a800422 rt hsl (min_le_right _ _)
  rw [map_append, filter_append] at hJ1
  generalize ((ps.take i).map (·.2)).filter (fun u => u == [40] || u == [41]) = acc at hacc hJ1 ⊢
  refine AQ ?_ rfl rfl
  right
  right
  refine FP ?_
  left
  refine ⟨(by decide : 2 ≤ sizeLine), ?_⟩
  refine Pm (T := .str) (d := .str u) (es := [.str [40], .str [41]]) .str (.cons .str (.cons .str .nil)) ⟨_, rfl⟩ ?_ ?_ ?_ ?_
  ·intro x hx
   rcases List.mem_cons.mp hx with rfl | hx
   ·exact ⟨_, rfl⟩
   ·rcases List.mem_cons.mp hx with rfl | hx
    ·exact ⟨_, rfl⟩
    ·cases hx
  ·show A.units + 0 + 1 < cLine
   exact Aa 0x909004400014fd0228023208a808422 rt hu hcl
  ·intro hin
   have hb : (u == [40] || u == [41]) = true := by simpa using hin
   refine Cp ?_
   left
   refine ⟨by rw [length_map]; exact Aa 0x84812c115200a061a808500422 rt hz10 hacc, (hJ1 _ _ _).mpr ⟨⟨_, _, rfl⟩, rfl, ?_⟩⟩
   have hb' : u = [40] ∨ u = [41] := by simpa using hin
   rw [map_append]
   rcases hb' with rfl | rfl <;> rfl
  ·intro hin
   have hb : ¬ (u == [40] || u == [41]) = true := by simpa using hin
   refine (hJ1 _ _ _).mpr ⟨⟨_, _, rfl⟩, rfl, ?_⟩
   have hb1 : ¬ u = [40] ∧ ¬ u = [41] := by simpa using hin
   have e1 : (u == [40]) = false := by simpa using hb1.1
   have e2 : (u == [41]) = false := by simpa using hb1.2
   simp [e1, e2]
 ·obtain ⟨⟨q1, q2, rfl⟩, rfl, rfl⟩ := (hJ _ _ _ _).mp hj
  refine ⟨.lst, ?_⟩
  clear hj hJ
  rw [length_map, take_length, hF]
  refine AK ?_
  left
  rw [show (ms.map fun m => sgn m.2).map PV.str = (ms.map (·.2)).map fun b => PV.str (sgn b) by rw [map_map, map_map]; rfl]
  refine KA KX G hH (by show A.depth < 1000; exact Aq 0x7d022a03c208a808421 rt hA) (by exact Aa 0x12a220014fd0228023208a808422 rt hu hcl) (by exact Aq 0x288800c8800421 rt hs.2) (by exact Aa 0x3208a9021220e08800422 rt hml hbl) h0 hno hgrow fun ab => ?_
  left
  refine Rj (T := .int) (ds := (Fk (ms.map (·.2)) size at0).map fun n : Nat => Dt.int n) (es := dp.map fun n : Int => Dt.int n) (.ref (.head _)) .lst (AV (fun n => .int) _) (AV (fun n => .int) _) ?_ ?_ ?_ ?_
  ·intro x hx; obtain ⟨m, _, rfl⟩ := List.mem_map.mp hx; exact ⟨_, rfl⟩
  ·intro x hx; obtain ⟨m, _, rfl⟩ := List.mem_map.mp hx; exact ⟨_, rfl⟩
  ·show A.units + 0 + 1 < cLine
   exact Aa 0x909004400014fd0228023208a808422 rt hu hcl
  ·have he : ((Fk (ms.map (·.2)) size at0).map fun n : Nat => Dt.int n) = dp.map fun n : Int => Dt.int n := by rw [← hback, map_map]; rfl
   have hd : ∀ i : Decidable (((Fk (ms.map (·.2)) size at0).map fun n : Nat => Dt.int n) = dp.map fun n : Int => Dt.int n), @decide _ i = true := fun i => @decide_eq_true _ i he
   rw [hd]
   exact h _ fun x hx => .tail _ hx
end
theorem LX (nums : List Int) : ∃ d0 d1 d2 d3 d4 d5, Fp nums = [d0, d1, d2, d3, d4, d5] := ⟨_, _, _, _, _, _, rfl⟩
theorem Nk (h : nums.length ≤ 60) : ∀ v ∈ Fp nums, v ≤ 400000 := by
 have hp : ∀ i : Nat, ((pick nums (some (i : Int)) none (some 6)).map fun y => (y % 5040).toNat).sum ≤ 60 * 5039 := fun i => by
  refine le_trans (NM _) (mul_le_mul_right _ (le_trans (DJ _ _ _ _) h))
 intro v hv
 unfold Fp at hv
 obtain ⟨x, hx, rfl⟩ := List.mem_map.mp hv
 have h1 := hp x.2
 have h2 : x.1 ≤ 1708 := by
  have : x.1 ∈ BU := by
   have := List.mem_zipIdx_iff_getElem?.mp (show (x.1, x.2) ∈ BU.zipIdx from hx)
   exact mem_of_getElem? this
  have hall : ∀ y ∈ BU, y ≤ 1708 := by decide
  exact hall _ this
 omega
theorem IA (k : Nat) (hk : k < 8) : Do.getD k [] ∈ Do := by
 have : k < Do.length := hk
 rw [getD_eq_getElem?_getD, getElem?_eq_getElem this]; exact getElem_mem this
theorem OC (d0 : Nat) : tlF d0 ∈ Eo := by
 have : d0 / 1152 % 4 < Eo.length := mod_lt _ (by decide)
 unfold tlF
 rw [getD_eq_getElem?_getD, getElem?_eq_getElem this]; exact getElem_mem this
theorem O4 (d0 : Nat) : Hid (Ml d0) ∧ (Ml d0).length = 5 ∧ ∀ y ∈ Ml d0, y.length ≤ 20 := by
 have h1 := IA (d0 / 18 % 8) (mod_lt _ (by decide))
 have h2 := IA (d0 / 144 % 8) (mod_lt _ (by decide))
 have hlen : ∀ y ∈ Do, y.length ≤ 20 := by decide
 unfold Ml
 refine ⟨fun j => ?_, rfl, fun y hy => ?_⟩
 ·rcases j with _ | _ | _ | _ | _ | j
  ·exact Eb
  ·exact G3 _ h1
  ·exact Eb
  ·exact G3 _ h2
  ·exact Eb
  ·exact Eb
 ·simp only [mem_cons, List.not_mem_nil, or_false] at hy
  rcases hy with rfl | rfl | rfl | rfl | rfl
  ·simp
  ·exact hlen _ h1
  ·simp
  ·exact hlen _ h2
  ·simp
theorem Me {z : Str × NameKind} : ∀ {ns : Nm} {m : AU} {i : Nat}, (z, some p) ∈ ns.zip (H5 m i none) → (z, some p) ∈ ns.zip m
 | [], _, _, h => nomatch h
 | _ :: _, [], _, h => nomatch h
 | _ :: _, _ :: _, 0, h => (List.mem_cons.mp h).elim (fun e => nomatch (Prod.mk.inj e).2) fun h => .tail _ h
 | _ :: _, _ :: _, _ + 1, h => (List.mem_cons.mp h).elim (fun e => e ▸ .head _) fun h => .tail _ (Me h)
def fgl (l : List Nat) (m : AU) : AU := l.foldl (fun m i => H5 m i none) m
theorem WS.fg {X : Cx} {A : Around} {env : Env} {nm : Nm} {t : Sem Flow} {L : Ai} {Qn : QS} {Qr : QE} {Qb Qc : QS} : ∀ (l : List Nat) {m : AU}, WS X A env nm (fgl l m) t L Qn Qr Qb Qc → WS X A env nm m t L Qn Qr Qb Qc
 | [], _, h => h
 | i :: l, m, h => fun Z s E F => WS.fg l (m := H5 m i none) h Z s E ⟨F.hp, F.ok, fun x k p hm => F.vals x k p (Me hm), F.nsx, F.lz, F.cz⟩
def m_w (x42 : Option PV) : AU := Qx x42
section
variable (KX : (KK X.w.params).In X.h₀)
include KX
theorem PX {ns : List Int} (gv : FQ X la ns) (ok : A8 env BA) (hfr : A.frames = some [env]) (hf : env.frame = some env.locals) (hH : A.handled = none) (hA : A.depth < 900) (hu : A.units < 100)
  (hcode : env.code = .ref DE) (hqual : env.qual = ofString "law" ++ ".<locals>.")
  (hQ : ∀ L', ER ∈ L' → Qr (.bool true) L') : WS X A env BA (m_w (some (.val (.ref la)))) (execs (Bj X.w.params) env) [ER] Qn Qr Qb Qc := by
 have G := gv.gg
 refine P9 KX gv ok hH hA hu ?_
 have hnl : (ns.take 60).length ≤ 60 := by rw [length_take]; exact Aq 0x7822a001e08a800421 rt (min_le_left _ _)
 generalize ns.take 60 = nums at hnl ⊢
 have hdl := Nk hnl
 obtain ⟨d0, d1, d2, d3, d4, d5, hdr⟩ := LX nums
 rw [hdr] at hdl ⊢
 refine PA KX G ok hH hA hu hnl hdl fun al q1 q2 => ?_
 have hs : 1 ≤ 1 + d0 % 3 ∧ 1 + d0 % 3 ≤ 3 := by exact ⟨Aq 8834748907552 rt, Aq 0x644048000c8808421 rt RD⟩
 generalize hsz : 1 + d0 % 3 = size at hs ⊢
 generalize hvs : [d1, d2, d3, d4, d5].take (4 + nums.length % 2) = vs
 have hvl : vs.length ≤ 5 := by rw [← hvs, length_take]; exact min_le_right _ _
 have lo := DX d0 vs
 have hll : (Ba d0 vs).length ≤ 6 := by rw [Ex]; exact Aq 0xc4091000148800421 rt hvl
 have pg := Jz hs.1 d0 vs
 obtain ⟨hB, h33⟩ := KJ hs d0 vs hvl
 refine WS.fg [0, 1, 5, 6] ?_
 refine PB KX G ok hH hA hu hs lo hll ?_
 have hdl6 : (CA size (Ba d0 vs)).length ≤ 6 := by unfold CA; rw [length_map]; exact hll
 generalize CA size (Ba d0 vs) = ds at pg hB h33 hdl6 ⊢
 refine WS.fg [4] ?_
 refine PC KX gv ok hH hA hu hcode hqual (.tail _ (.head _)) hs hdl6 fun cv ic => ?_
 have hfl : (Am size ds).length ≤ 24 := by
  rw [DF]
  have := mul_le_mul hdl6 (show size + 1 ≤ 4 by exact Aq 0x840910000c8800421 rt hs.2)
  exact Aq 0x1822004218c800421 rt this
 refine WS.fg [8] ?_
 refine PD KX G ok hH hA hu hfl fun as am aa has => ?_
 refine PE KX G ok hH hA hu ic hfl hB fun qm => ?_
 have e1 : as.map PV.ref = ((Am size ds).zip as).map zP := by
  have := List.map_snd_zip (l₁ := Am size ds) (l₂ := as) (by exact Aa 0x94012810421 rt has)
  conv => lhs; rw [← this, map_map]
  rfl
 have e2 : Am size ds = ((Am size ds).zip as).map fst := (List.map_fst_zip (by exact Aa 9105641127969 rt has)).symm
 have e3 : (Am size ds).map AW = ((Am size ds).zip as).map fun z => AW z.1 := by
  conv => lhs; rw [e2, map_map]
  rfl
 have e4 : (Al fst 60 (Am size ds)).map AW = (Al fst 60 (((Am size ds).zip as).map fst)).map AW := by rw [← e2]
 rw [e1, e3, e4, NN]
 have hzl : ((Am size ds).zip as).length ≤ 24 := by rw [List.length_zip]; exact Aa 0x6089021200e08800422 rt hfl (min_le_left _ _)
 have hBz : ∀ f ∈ (Am size ds).zip as, kz f < 60 := fun f hf => hB f.1 (of_mem_zip (show (f.1, f.2) ∈ _ from hf)).1
 have e5 : Al fst 60 (((Am size ds).zip as).map fst) = Af 60 size ds := by rw [← e2]; rfl
 generalize (Am size ds).zip as = zl at hzl hBz e5 ⊢
 refine WS.fg [11, 13] ?_
 refine PG KX G ok hH hA hu hzl hBz (fun z hz => ON _ hz) fun qm => ?_
 refine WS.fg [11, 14] ?_
 refine PH KX G ok hH hA hu hzl fun qm ql => ?_
 refine WS.fg [10, 11, 17, 12] ?_
 refine PI KX G ok hH hA hu hzl hBz ?_
 have hmZ : ∀ z ∈ zl, (z.2, AO.list [.int z.1.1, .str (sgn z.1.2)]) ∈ (aa, AO.list ((Al kz 60 zl).map zP)) :: (am, .list ((Al fst 60 (zl.map fst)).map AW)) :: ((zl.map zE2).reverse ++ StL [ER] al (Ba d0 vs)) := fun z hz => .tail _ (.tail _ (Kz _ hz))
 have hmA : (aa, AO.list ((Al kz 60 zl).map zP)) ∈ (aa, AO.list ((Al kz 60 zl).map zP)) :: (am, .list ((Al fst 60 (zl.map fst)).map AW)) :: ((zl.map zE2).reverse ++ StL [ER] al (Ba d0 vs)) := .head _
 have hmM : (am, AO.list ((Al fst 60 (zl.map fst)).map AW)) ∈ (aa, AO.list ((Al kz 60 zl).map zP)) :: (am, .list ((Al fst 60 (zl.map fst)).map AW)) :: ((zl.map zE2).reverse ++ StL [ER] al (Ba d0 vs)) := .tail _ (.head _)
 have htab : ER ∈ (aa, AO.list ((Al kz 60 zl).map zP)) :: (am, .list ((Al fst 60 (zl.map fst)).map AW)) :: ((zl.map zE2).reverse ++ StL [ER] al (Ba d0 vs)) := .tail _ (.tail _ (mem_append_right _ (.tail _ (.head _))))
 generalize (aa, AO.list ((Al kz 60 zl).map zP)) :: (am, AO.list ((Al fst 60 (zl.map fst)).map AW)) :: ((zl.map zE2).reverse ++ StL [ER] al (Ba d0 vs)) = L at hmZ hmA hmM htab ⊢
 have hm := hmM
 rw [e5] at hm
 have hds0 : 0 < ds.length := List.length_pos_of_mem (List.mem_of_head? pg.hd)
 have hlen := ID hB
 have hml : 0 < (Af 60 size ds).length ∧ (Af 60 size ds).length ≤ 24 := by
  rw [hlen]
  rw [DF] at hfl
  exact ⟨Nat.mul_pos hds0 (by exact Aq 0x24400040a02400421 rt hs.1), hfl⟩
 refine PJ KX G ok hH hA hu (d0 := d0) rfl rfl hm (by rw [length_map]; exact hml) fun pmn => ?_
 refine WS.fg [18] ?_
 refine PK KX G ok hH hA hu hs.2 hdl rfl hm hml ?_
 have hcut : [d0, d1, d2, d3, d4, d5].sum % (Af 60 size ds).length < (Af 60 size ds).length := mod_lt _ hml.1
 generalize [d0, d1, d2, d3, d4, d5].sum % (Af 60 size ds).length = cut at hcut ⊢
 obtain ⟨hid, hh, hhl⟩ := O4 d0
 have htm := OC d0
 have htl : (tlF d0).length ≤ 20 := by
  have : ∀ y ∈ Eo, y.length ≤ 20 := by decide
  exact this _ htm
 have hq := (E0 _ htm).2
 refine WS.fg [2] ?_
 refine PM KX G ok hH hA hu hs hm hml hh hhl htl hcut ?_ ?_ ?_ ?_ fun ptx pno at1 txs => ?_
 ·rw [D1 hid _ _ hq]; exact Hz hs hB hds0 (by exact Aa 0x9408c90910010601 rt (sub_add_cancel (Aq 9046790301025313 rt hs.1)))
 ·rw [D1 hid _ _ hq]; exact J7 hs hB
 ·rw [D1 hid _ _ hq]; exact Hz hs hB hds0 (by exact Aq 8835016235040 rt)
 ·rw [D1 hid _ _ hq, J8 hs hB, K0]; rfl
 have hm99 : ∀ m ∈ Af 60 size ds, m.1 < 99 := fun m hm => by
  have := hB m (BW hm); exact Aq 0xc622a021e08a808421 rt this
 refine WS.fg [22, 23, 24] ?_
 refine PN KX G ok hH hA hu ic (.tail _ hm) hml hm99 hcut fun ap ps => ?_
 refine WS.fg [25] ?_
 refine PO KX (B := 60) (zl := zl) G ok hfr hf hH hA hu ic (.tail _ (.tail _ hmM)) (.tail _ (.tail _ hmA)) (fun z hz => .tail _ (.tail _ (hmZ z hz))) hzl hBz (by exact Aa 0x60890a1210e08800422 rt hml.2 hcut) ?_
 have hm := mem_cons_of_mem (ap, AO.list ps) (mem_cons_of_mem (at1, AO.list txs) hm)
 have htab := mem_cons_of_mem (ap, AO.list ps) (mem_cons_of_mem (at1, AO.list txs) htab)
 generalize (ap, AO.list ps) :: (at1, AO.list txs) :: L = L2 at hm htab ⊢
 refine WS.fg [9, 16, 21] ?_
 refine PP KX G ok hH hA hu hm hml.2 ?_
 refine PQ KX G ok hH hA hu hm hml.2 fun ar => ?_
 obtain ⟨dm, hdm, hdm'⟩ := I6 (List.length_pos_iff.mp hds0)
 generalize hc0 : Ej (BN d0) size = c0 at pg
 obtain ⟨r, rfl⟩ : ∃ r, dm = c0 + r := ⟨dm - c0, by have := pg.low dm hdm; exact Ez 0x8481425250010421 rt (sub_add_cancel (Aa 0x94012800421 rt this))⟩
 have hr3 : r ≤ 100 := by have := h33 _ hdm; exact Aa 0x3208a9004222a50000421 rt this
 have hbo := ME hs hB pg hdm hdm'
 refine PR KX G ok hH hA hu hm hml.2 hml.2 hs hbo fun q1 q2 q3 q4 => ?_
 refine WS.fg [28, 30, 33, 34, 35, 36] ?_
 refine PS KX G ok hH hA hu hm hml.2 hs pg.hd hdl6 hdm hdm' hr3 ?_
 have hcb := Di (Af 60 size ds)
 have hdp : (Dk ds c0).length ≤ 6 := by unfold Dk; rw [length_map]; exact hdl6
 refine WS.fg [7, 32] ?_
 refine PT KX (C := fun p => Bp false ((Af 60 size ds).take p)) gv ok hH hcode hqual (.tail _ htab) hA hu (.tail _ hm) hml.2 hs (by unfold Bp at hcb; exact Ez 0xa424025250014021 rt hcb) (Ir hs hB) hdp (Ly hs hB) ?_
 refine WS.fg [27, 29, 31] ?_
 refine PU KX G ok hH hA hu (.tail _ hm) hml.2 hs ?_ ?_ (KY _ hdp) (MF ?_) (Jc hs hB c0) fun qa => ?_
 ·rw [length_map]; unfold Bp at hcb; exact AB 0x1822408524020e08800422 rt hml.2 hcb
 ·intro c hc
  obtain ⟨p, _, rfl⟩ := List.mem_map.mp hc
  have := Ov false (Af 60 size ds) p
  exact Aa 0x3208a9021200e08800422 rt hml.2 this
 ·intro x hx
  obtain ⟨d, hd, rfl⟩ := List.mem_map.mp hx
  have h1 := h33 d hd
  have h2 := h33 _ (List.mem_of_head? pg.hd)
  exact ⟨Aa 0x40d2308c8228861088a800421 rt h2, Aa 0xc822a46818461088a800421 rt h1⟩
 obtain ⟨hb1, hb2⟩ := Jf hs hB pg
 refine WS.fg [38, 39, 40] ?_
 refine PW KX (at0 := (pre (c0 + 1) (Af 60 size ds)).length) G ok hH hA hu (.tail _ hm) hml.2 hs hh hhl htl (KT hid _ htm) ?_ (Li _ (by rw [length_map]; exact hml.2) htl) hb1 hb2 (KC hs hB pg (by exact Aq 0x1f408a80188800421 rt hdl6)) (Mv hs hB pg) fun L' hL' => hQ L' (hL' _ (.tail _ htab))
 rw [HO hid _ htm, map_map]; rfl
end
theorem Mw : ∀ (X : Cx) (la : Addr) (ns : List Int), FQ X la ns → Hc X callerA (.ref K4) [.val (.ref la)] [] [ER] fun p L' => p = .bool true ∧ ER ∈ L' := by
 intro X la ns gv
 have KX := gv.kx
 have G := gv.gg
 refine' Hh (bs := [(ofString "script", .val (.ref la))]) (m₀ := (Qx (some (.val (.ref la)))))
  (KX K4 _ rfl) ?cr (by decide) (Ak (by decide +kernel)) ?bd [ofString "script"] rfl (by decide +kernel) ?bk ?ini (by decide +kernel) ?_ rfl rfl rfl rfl rfl rfl
 case cr => exact ⟨_, _, _, _, rfl, KX DE _ rfl, rfl, rfl⟩
 case bk => walk_at "b"
 case ini => walk_at "i"
 case bd =>
  exact FY KX fun v1 S => by with_unfolding_all rfl
 intro env ok hfn hcode hqual hf
 exact PX KX gv ok (Around.frames_deeper rfl) hf rfl (by show callerA.depth + 1 < 900; decide) (by show callerA.units + 3 < 100; decide) hcode hqual fun L' hL' => ⟨rfl, hL'⟩
theorem law_holds : PySem.Challenge.rw_rs0213_01.Holds := Nv Mw
end
end
end Mine
theorem PySem.Challenge.cw_rs0213_01_holds : PySem.Challenge.rw_rs0213_01.Holds :=
 Mine.law_holds
