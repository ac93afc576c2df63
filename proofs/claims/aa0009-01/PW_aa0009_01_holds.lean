import PyProof.Rows.All
import Wide.All
import OpenK.AllK
import Wide.FinOn
import PyProof.OldK
import Lean
import PySem.Challenge.RW_aa0009_01
set_option Elab.async false
set_option maxRecDepth 1000000
set_option maxHeartbeats 0
set_option linter.all false
open PySem PySem.W PySem.W.X PyProof.Rows
section
open PySem.Calls
namespace Mine
noncomputable def Zj (tb : String -> Option Builtin) (p : Program) (w : World) : Nat -> SharedT -> Thread -> Option SharedT
 | 0, _, _ => none
 | n + 1, s, t => match t.atExitBegin with
  | some l => (match l with | [] => some s | _ => none)
  | none => match stepT (denote tb) p w s t with
   | some (s', t') => Zj tb p w n s' t'
   | none => none
theorem R6 {tb : String -> Option Builtin} {p : Program} {w : World} : ∀ {n : Nat} {s s' : SharedT} {t : Thread}, Zj tb p w n s t = some s' -> importEnds tb p w n s.abs t = some s'.abs
 | 0, _, _, _, h => by cases h
 | n + 1, s, s', t, h => by
  unfold Zj at h
  unfold importEnds
  cases he : t.atExitBegin with
  | some l =>
   rw [he] at h
   cases l with
   | nil => cases h; rfl
   | cons _ _ => cases h
  | none =>
   rw [he] at h
   cases hs : stepT (denote tb) p w s t with
   | none => rw [hs] at h; cases h
   | some r => obtain ⟨s₂, t₂⟩ := r; rw [hs] at h; dsimp only; rw [stepT_spec hs]; exact R6 h
noncomputable def toB : List Obj -> BT -> Nat -> Option BT
 | [], T, _ => some T
 | o :: l, T, n => match ((T.ins n o).get n).isSome with
  | true => toB l (T.ins n o) (n + 1)
  | false => none
theorem Um {life : Life} : ∀ {l : List Obj} {T T' : BT} {n : Nat}, toB l T n = some T' -> absHeap T' (n + l.length) life = ⟨(absHeap T n life).objs ++ l.toArray, life⟩
 | [], T, T', n, h => by cases h; simp [absHeap]
 | o :: l, T, T', n, h => by
  unfold toB at h
  split at h
  ·rename_i e
   have z := Um (life := life) h
   rw [List.length_cons, show n + (l.length + 1) = n + 1 + l.length by omega, z, absHeap_ins e]
   simp [Heap.push, absHeap]
  ·cases h
noncomputable def toT (s : Shared) : Option SharedT := match toB s.heap.objs.toList .nil 0 with
 | some T => some ⟨T, s.heap.objs.toList.length, s.heap.life, s.gens, s.drawn, s.toks, s.os⟩
 | none => none
theorem Tw {s : Shared} {t : SharedT} (h : toT s = some t) : t.abs = s := by
 unfold toT at h
 split at h
 ·rename_i T e
  cases h
  have z := Um (life := s.heap.life) e
  obtain ⟨⟨objs, life⟩, g, d, k, os⟩ := s
  simp only [Nat.zero_add] at z
  simp only [SharedT.abs, z]
  simp [absHeap, BT.list]
 ·cases h
end Mine
end
namespace Mine
noncomputable abbrev pw : Program := PySem.Challenge.pw_aa0009_01
noncomputable abbrev om (l : List Obj) : List (Option Obj) := l.map some
noncomputable abbrev y1 : Str := ⟨#[97, 110, 121]⟩
noncomputable abbrev y2 : Str := ⟨#[109, 97, 110, 121]⟩
noncomputable abbrev y3 : Str := ⟨#[112, 97, 116]⟩
noncomputable abbrev y4 : Str := ⟨#[83, 84, 65, 82]⟩
noncomputable abbrev y5 : Str := ⟨#[81, 85, 69, 83, 84, 73, 79, 78, 95, 77, 65, 82, 75]⟩
noncomputable abbrev y6 : Str := ⟨#[114, 101, 115]⟩
noncomputable abbrev y7 : Str := ⟨#[97, 100, 100]⟩
noncomputable abbrev y8 : Str := ⟨#[110]⟩
noncomputable abbrev y9 : Str := ⟨#[105]⟩
noncomputable abbrev y10 : Str := ⟨#[99]⟩
noncomputable abbrev E1 : Str := ⟨#[91, 33, 97, 93, 42]⟩
noncomputable abbrev Fo : Str := ⟨#[42]⟩
noncomputable abbrev Jv : Str := ⟨#[106]⟩
noncomputable abbrev Jy : Str := ⟨#[115, 116, 117, 102, 102]⟩
noncomputable abbrev Kd : Str := ⟨#[94, 97]⟩
noncomputable abbrev R2 : Str := ⟨#[91, 94, 97, 93]⟩
noncomputable abbrev Hs : Str := ⟨#[97]⟩
noncomputable abbrev J3 : Str := ⟨#[119]⟩
noncomputable abbrev Lh : Str := ⟨#[119, 119, 119, 46, 42]⟩
noncomputable abbrev Li : Str := ⟨#[42, 97, 42]⟩
noncomputable abbrev Uf : Str := ⟨#[91]⟩
noncomputable abbrev Nv : Str := ⟨#[92, 46]⟩
noncomputable abbrev Mr : Str := ⟨#[34]⟩
noncomputable abbrev Sx : Str := ⟨#[120]⟩
noncomputable abbrev Sz : Str := ⟨#[111]⟩
noncomputable abbrev Sj : Str := ⟨#[108, 97, 119, 95, 97, 97, 48, 48, 48, 57, 95, 48, 49]⟩
noncomputable abbrev Sw : Str := ⟨#[105, 111]⟩
noncomputable abbrev y28 : Str := ⟨#[91, 97, 98, 93, 46, 111, 114, 103]⟩
noncomputable abbrev y29 : Str := ⟨#[95, 95, 100, 111, 99, 95, 95]⟩
noncomputable abbrev Yv : Str := ⟨#[84, 101, 120, 116, 73, 79, 66, 97, 115, 101]⟩
noncomputable abbrev y31 : Str := ⟨#[99, 112, 121, 51, 49, 51, 46, 115, 104, 108, 101, 120]⟩
noncomputable abbrev y32 : Str := ⟨#[91, 97, 98, 93]⟩
noncomputable abbrev y33 : Str := ⟨#[95, 95, 105, 110, 105, 116, 95, 95]⟩
noncomputable abbrev y34 : Str := ⟨#[95, 95, 109, 111, 100, 117, 108, 101, 95, 95]⟩
noncomputable abbrev y35 : Str := ⟨#[95, 95, 102, 105, 114, 115, 116, 108, 105, 110, 101, 110, 111, 95, 95]⟩
noncomputable abbrev y36 : Str := ⟨#[95, 95, 115, 116, 97, 116, 105, 99, 95, 97, 116, 116, 114, 105, 98, 117, 116, 101, 115, 95, 95]⟩
noncomputable abbrev y37 : Str := ⟨#[109, 97, 99, 104, 105, 110, 101]⟩
noncomputable abbrev y38 : Str := ⟨#[95, 110, 101, 116, 114, 99, 108, 101, 120]⟩
noncomputable abbrev y39 : Str := ⟨#[73, 79, 66, 97, 115, 101]⟩
noncomputable abbrev y40 : Str := ⟨#[66, 117, 102, 102, 101, 114, 101, 100, 73, 79, 66, 97, 115, 101]⟩
noncomputable abbrev y41 : Str := ⟨#[66, 121, 116, 101, 115, 73, 79]⟩
noncomputable abbrev y42 : Str := ⟨#[83, 116, 114, 105, 110, 103, 73, 79]⟩
noncomputable abbrev y43 : Str := ⟨#[115, 104, 108, 101, 120]⟩
noncomputable abbrev y44 : Str := ⟨#[101, 115, 99, 97, 112, 101]⟩
noncomputable abbrev y45 : Str := ⟨#[95, 116, 114, 97, 110, 115, 108, 97, 116, 101]⟩
noncomputable abbrev y46 : Str := ⟨#[95, 105, 110, 100, 101, 120]⟩
noncomputable abbrev y47 : Str := ⟨#[115, 112, 108, 105, 116]⟩
noncomputable abbrev y48 : Str := ⟨#[95, 108, 97, 119, 95, 112, 97, 116, 116, 101, 114, 110, 115]⟩
noncomputable abbrev y49 : Str := ⟨#[95, 108, 97, 119, 95, 104, 111, 115, 116, 115]⟩
noncomputable abbrev y50 : Str := ⟨#[95, 108, 97, 119, 95, 119, 111, 114, 100]⟩
noncomputable abbrev y51 : Str := ⟨#[95, 108, 97, 119, 95, 101, 110, 116, 114, 105, 101, 115]⟩
noncomputable abbrev y52 : Str := ⟨#[95, 108, 97, 119, 95, 119, 111, 114, 100, 115]⟩
noncomputable abbrev y53 : Str := ⟨#[95, 108, 97, 119, 95, 116, 101, 120, 116]⟩
noncomputable abbrev y54 : Str := ⟨#[95, 108, 97, 119, 95, 116, 111, 107, 101, 110, 115]⟩
noncomputable abbrev y55 : Str := ⟨#[95, 108, 97, 119, 95, 115, 105, 103, 110]⟩
noncomputable abbrev y56 : Str := ⟨#[95, 108, 97, 119, 95, 116, 97, 107, 101, 115]⟩
noncomputable abbrev y57 : Str := ⟨#[95, 108, 97, 119, 95, 97, 115, 107, 101, 100]⟩
noncomputable abbrev y58 : Str := ⟨#[95, 108, 97, 119, 95, 116, 111, 108, 100]⟩
noncomputable abbrev y59 : Str := ⟨#[99, 112, 121, 51, 49, 51, 46, 110, 101, 116, 114, 99]⟩
noncomputable abbrev y60 : Str := ⟨#[103, 101, 116, 95, 116, 111, 107, 101, 110]⟩
noncomputable abbrev y61 : Str := ⟨#[42, 46, 111, 114, 103]⟩
noncomputable abbrev y62 : Str := ⟨#[63, 46, 111, 114, 103]⟩
noncomputable abbrev y63 : Str := ⟨#[100, 101, 102, 97, 117, 108, 116]⟩
noncomputable abbrev y64 : Str := ⟨#[97, 110, 121, 32, 111, 110, 101]⟩
noncomputable abbrev y65 : Str := ⟨#[95, 95, 110, 97, 109, 101, 95, 95]⟩
noncomputable abbrev y66 : Str := ⟨#[95, 95, 112, 97, 99, 107, 97, 103, 101, 95, 95]⟩
noncomputable abbrev y67 : Str := ⟨#[95, 95, 108, 111, 97, 100, 101, 114, 95, 95]⟩
noncomputable abbrev y68 : Str := ⟨#[95, 95, 115, 112, 101, 99, 95, 95]⟩
noncomputable abbrev y69 : Str := ⟨#[95, 95, 109, 97, 105, 110, 95, 95]⟩
noncomputable abbrev y70 : Str := ⟨#[47, 99, 108, 97, 105, 109, 47, 99, 117, 116, 46, 112, 121]⟩
noncomputable abbrev y71 : Str := ⟨#[95, 95, 100, 105, 99, 116, 95, 95]⟩
noncomputable abbrev y72 : Str := ⟨#[95, 95, 119, 101, 97, 107, 114, 101, 102, 95, 95]⟩
noncomputable abbrev y73 : Str := ⟨#[95, 95, 105, 116, 101, 114, 95, 95]⟩
noncomputable abbrev y74 : Str := ⟨#[95, 95, 110, 101, 120, 116, 95, 95]⟩
noncomputable abbrev y75 : Str := ⟨#[112, 117, 110, 99, 116, 117, 97, 116, 105, 111, 110, 95, 99, 104, 97, 114, 115]⟩
noncomputable abbrev y76 : Str := ⟨#[105, 109, 112, 111, 114, 116, 46, 108, 111, 97, 100, 101, 100, 46, 95, 115, 114, 101]⟩
noncomputable abbrev y77 : Str := ⟨#[99, 108, 97, 115, 115, 46, 95, 102, 114, 111, 122, 101, 110, 95, 105, 109, 112, 111, 114, 116, 108, 105, 98, 46, 66, 117, 105, 108, 116, 105, 110, 73, 109, 112, 111, 114, 116, 101, 114]⟩
noncomputable abbrev y78 : Str := ⟨#[119, 97, 116, 99, 104, 101, 100, 46, 105, 109, 112, 111, 114, 116]⟩
noncomputable abbrev y79 : Str := ⟨#[99, 108, 97, 115, 115, 46, 95, 102, 114, 111, 122, 101, 110, 95, 105, 109, 112, 111, 114, 116, 108, 105, 98, 46, 77, 111, 100, 117, 108, 101, 83, 112, 101, 99]⟩
noncomputable abbrev y80 : Str := ⟨#[115, 121, 115, 46, 109, 111, 100, 117, 108, 101, 115, 46, 98, 111, 111, 107, 101, 100, 45, 101, 112, 111, 99, 104]⟩
noncomputable abbrev y81 : Str := ⟨#[105, 109, 112, 111, 114, 116, 46, 108, 97, 116, 101, 114, 45, 108, 97, 105, 100, 46, 95, 115, 114, 101]⟩
noncomputable abbrev y82 : Str := ⟨#[119, 97, 116, 99, 104, 101, 100, 46, 108, 105, 98, 114, 97, 114, 121]⟩
noncomputable abbrev y83 : Str := ⟨#[119, 97, 116, 99, 104, 101, 100, 46, 108, 105, 98, 114, 97, 114, 121, 45, 111, 98, 106, 101, 99, 116, 115]⟩
noncomputable abbrev y84 : Str := ⟨#[119, 97, 116, 99, 104, 101, 100, 46, 108, 105, 98, 114, 97, 114, 121, 45, 100, 101, 101, 112, 46, 95, 115, 114, 101]⟩
noncomputable abbrev y85 : Str := ⟨#[4, 0, 0, 11, 4, 0, 0, 11, 4, 0, 0, 3, 4, 0, 0, 11, 8, 4, 100, 105, 99, 116, 2]⟩
noncomputable abbrev y86 : Str := ⟨#[105, 109, 112, 111, 114, 116, 46, 108, 111, 97, 100, 101, 100, 46, 95, 99, 111, 108, 108, 101, 99, 116, 105, 111, 110, 115]⟩
noncomputable abbrev y87 : Str := ⟨#[115, 121, 115, 46, 109, 111, 100, 117, 108, 101, 115, 46, 108, 97, 110, 100, 101, 100, 46, 95, 99, 111, 108, 108, 101, 99, 116, 105, 111, 110, 115]⟩
noncomputable abbrev y88 : Str := ⟨#[105, 109, 112, 111, 114, 116, 46, 108, 97, 116, 101, 114, 45, 108, 97, 105, 100, 46, 95, 99, 111, 108, 108, 101, 99, 116, 105, 111, 110, 115]⟩
noncomputable abbrev y89 : Str := ⟨#[119, 97, 116, 99, 104, 101, 100, 46, 108, 105, 98, 114, 97, 114, 121, 45, 100, 101, 101, 112, 46, 95, 99, 111, 108, 108, 101, 99, 116, 105, 111, 110, 115]⟩
noncomputable abbrev y90 : Str := ⟨#[4, 0, 0, 29, 4, 0, 0, 29, 4, 0, 0, 3, 4, 0, 0, 29, 8, 4, 100, 105, 99, 116, 2]⟩
noncomputable abbrev y91 : Str := ⟨#[95, 110, 101, 116, 114, 99, 108, 101, 120, 46, 95, 95, 105, 110, 105, 116, 95, 95]⟩
noncomputable abbrev y92 : Str := ⟨#[95, 110, 101, 116, 114, 99, 108, 101, 120, 46, 95, 114, 101, 97, 100, 95, 99, 104, 97, 114]⟩
noncomputable abbrev y93 : Str := ⟨#[95, 110, 101, 116, 114, 99, 108, 101, 120, 46, 103, 101, 116, 95, 116, 111, 107, 101, 110]⟩
noncomputable abbrev y94 : Str := ⟨#[112, 117, 115, 104, 95, 116, 111, 107, 101, 110]⟩
noncomputable abbrev y95 : Str := ⟨#[73, 79, 66, 97, 115, 101, 46, 95, 95, 110, 101, 119, 95, 95]⟩
noncomputable abbrev y96 : Str := ⟨#[83, 116, 114, 105, 110, 103, 73, 79, 46, 95, 95, 105, 110, 105, 116, 95, 95]⟩
noncomputable abbrev y97 : Str := ⟨#[83, 116, 114, 105, 110, 103, 73, 79, 46, 95, 95, 116, 114, 97, 110, 115, 108, 97, 116, 101, 100]⟩
noncomputable abbrev y98 : Str := ⟨#[83, 116, 114, 105, 110, 103, 73, 79, 46, 95, 95, 99, 104, 101, 99, 107]⟩
noncomputable abbrev y99 : Str := ⟨#[83, 116, 114, 105, 110, 103, 73, 79, 46, 114, 101, 97, 100]⟩
noncomputable abbrev Ajw : Str := ⟨#[115, 104, 108, 101, 120, 46, 95, 95, 105, 110, 105, 116, 95, 95]⟩
noncomputable abbrev Ahx : Str := ⟨#[115, 104, 108, 101, 120, 46, 112, 117, 110, 99, 116, 117, 97, 116, 105, 111, 110, 95, 99, 104, 97, 114, 115]⟩
noncomputable abbrev Agl : Str := ⟨#[115, 104, 108, 101, 120, 46, 103, 101, 116, 95, 116, 111, 107, 101, 110]⟩
noncomputable abbrev Aiw : Str := ⟨#[114, 101, 97, 100, 95, 116, 111, 107, 101, 110]⟩
noncomputable abbrev Ajb : Str := ⟨#[115, 104, 108, 101, 120, 46, 114, 101, 97, 100, 95, 116, 111, 107, 101, 110]⟩
noncomputable abbrev Aki : Str := ⟨#[115, 104, 108, 101, 120, 46, 95, 95, 105, 116, 101, 114, 95, 95]⟩
noncomputable abbrev Aju : Str := ⟨#[115, 104, 108, 101, 120, 46, 95, 95, 110, 101, 120, 116, 95, 95]⟩
structure En where
 k : Str
 t : Nat
 v : Value
noncomputable abbrev zE (P : Params) (s : Str) (t : Nat) (v : Value) : DictEntry := ⟨PyData.keyHash P s, .str s t, v⟩
noncomputable abbrev zB (P : Params) (s : Str) (t : Nat) (v : String) : DictEntry := ⟨PyData.keyHash P s, .str s t, .builtin v⟩
noncomputable def zL (P : Params) : List En -> List DictEntry
 | [] => []
 | e :: l => ⟨PyData.keyHash P e.k, .str e.k e.t, e.v⟩ :: zL P l
noncomputable abbrev zF (P : Params) (l : List En) (n : Nat) : Obj := ⟨.type "frame", none, .dict (zL P l).toArray n, #[]⟩
noncomputable abbrev zG (P : Params) (l : List En) (n : Nat) : Obj := ⟨.type "dict", none, .dict (zL P l).toArray n, #[]⟩
noncomputable def x2f : Nat -> Nat -> Nat
 | 0, _ => 0
 | k + 1, n => match Nat.beq n 0 with
  | true => 0
  | false => match Nat.beq (n % 16) 15 with
   | true => Nat.add (n / 16 % 256) (Nat.mul 256 (x2f k (n / 4096)))
   | false => Nat.add (n % 16) (Nat.mul 256 (x2f k (n / 16)))
noncomputable def x2 (n : Nat) : Nat := x2f 9000 n
noncomputable abbrev zl (l : List Value) (n : Nat) : Obj := ⟨.type "list", none, .seq l.toArray n, #[]⟩
noncomputable abbrev zt (l : List Value) : Obj := ⟨.type "tuple", none, .seq l.toArray 0, #[]⟩
noncomputable abbrev zb (a : Nat) : Obj := ⟨.type "builtin_function_or_method", none, .fields #[.builtin "list.append", .ref a], #[]⟩
noncomputable abbrev zi : Obj := ⟨.type "tuple_iterator", none, .fields #[.none, .int 2 0], #[]⟩
noncomputable abbrev zs (a : Nat) : Obj := ⟨.type "StopIteration", none, .fields #[.ref a, .none, .none, .none, .bool false, .none], #[]⟩
noncomputable abbrev fA (P : Params) (p : Str) (a b : Nat) (n i : Int) (c : Str) (k0 k1 k2 k3 k4 k5 k6 k7 k8 k9 k10 k11 k12 k13 : Nat) (ex : List En) (m : Nat) : Obj :=
 zF P (⟨y3, k0, .str p k1⟩ :: ⟨y4, k2, .str y2 k3⟩ :: ⟨y5, k4, .str y1 k5⟩ :: ⟨y6, k6, .ref a⟩ :: ⟨y7, k7, .ref b⟩ :: ⟨y8, k8, .int n k9⟩ :: ⟨y9, k10, .int i k11⟩ :: ⟨y10, k12, .str c k13⟩ :: ex) m
noncomputable def R3 : FuncData := default
noncomputable def Aat : FuncBody -> List Stmt
 | .stmts b => b
 | .expr _ => []
noncomputable def B5 : List Stmt -> Nat -> Stmt
 | [], _ => .Pass ⟨0, 0, 0, 0⟩
 | a :: l, j => match j with
  | 0 => a
  | j + 1 => B5 l j
noncomputable def Ame (b : List Stmt) : List Nat -> Stmt
 | [] => .Pass ⟨0, 0, 0, 0⟩
 | i :: r => match r with
  | [] => B5 b i
  | j :: _ => match B5 b i with
   | .ClassDef _ _ _ cb _ _ _ _ _ _ _ => B5 cb j
   | _ => .Pass ⟨0, 0, 0, 0⟩
noncomputable abbrev zS (s : Str) (t : Nat) : Value := .str s t
noncomputable abbrev zI (i : Int) (t : Nat) : Value := .int i t
noncomputable abbrev zR (a : Nat) : Value := .ref a
noncomputable abbrev zU (s : String) : Value := .builtin s
noncomputable abbrev zT (s : String) : Value := .type s
noncomputable def Ht (p : List Nat) (q : Str) (d m : Value) (c : Nat) : Obj := match Ame pw.main.body p with
 | .FunctionDef n a b _ _ _ sc _ _ _ => ⟨.type "function", none, .func ⟨n, q, a, .stmts b, sc, 3, [], d, .none, .none, m, none, .ref c, .none, 0⟩, #[]⟩
 | _ => default
noncomputable def Hu (n q : Str) (t : Nat) (l a b c d : Int) (r1 r2 : Nat) (x1 x2 : Value) (r3 : Nat) (y : Int) (t3 : Nat) : Obj :=
 ⟨.type "code", none, .fields #[.str n t, .str q (t + 1), .str ⟨#[47, 99, 108, 97, 105, 109, 47, 99, 117, 116, 46, 112, 121]⟩ (t + 2), .int l 0, .int a 0, .int b 0, .int c 0, .int d 0, .ref r1, .bool true, .int 318 0, .ref r2, .none, x1, x2, .ref r3, .int y 0, .int l 0, .str ⟨#[47, 99, 108, 97, 105, 109, 47, 99, 117, 116, 46, 112, 121]⟩ t3], #[]⟩
theorem dl {n a b : Nat} (h : n <= a) (hab : Nat.ble a b = true := by rfl) : n <= b := Nat.le_trans h (Nat.le_of_ble_eq_true hab)
theorem Dv {n a c d b : Nat} (h : n <= a + d) (h' : a <= c) (hab : Nat.ble (c + d) b = true := by rfl) : n <= b := Nat.le_trans h (Nat.le_trans (Nat.add_le_add_right h' d) (Nat.le_of_ble_eq_true hab))
theorem Dd {b y : Nat} (l : List Nat) (h : y ∈ l.map (b + ·)) : b <= y := by
 obtain ⟨i, _, rfl⟩ := List.mem_map.mp h
 exact Nat.le_add_right _ _
noncomputable def o0 (P : Params) : Obj := match (PySem.W.boot_o_0 P).data with
 | .dict es _ => ⟨.type "dict", none, .dict ([zE P y65 1 (zS ⟨#[98, 117, 105, 108, 116, 105, 110, 115]⟩ 160),
  zB P y29 2 "builtins.__doc__:str#opaque",
  zB P y66 3 "builtins.__package__:str#opaque",
  zB P y67 4 "builtins.__loader__:shared#opaque",
  zB P y68 5 "builtins.__spec__#opaque",
  zB P ⟨#[95, 95, 98, 117, 105, 108, 100, 95, 99, 108, 97, 115, 115, 95, 95]⟩ 6 "__build_class__",
  zB P ⟨#[95, 95, 105, 109, 112, 111, 114, 116, 95, 95]⟩ 7 "__import__",
  zB P ⟨#[97, 98, 115]⟩ 8 "abs",
  zB P ⟨#[97, 108, 108]⟩ 9 "all",
  zB P y1 10 "any",
  zB P ⟨#[97, 115, 99, 105, 105]⟩ 11 "ascii",
  zB P ⟨#[98, 105, 110]⟩ 12 "bin",
  zB P ⟨#[98, 114, 101, 97, 107, 112, 111, 105, 110, 116]⟩ 13 "breakpoint",
  zB P ⟨#[99, 97, 108, 108, 97, 98, 108, 101]⟩ 14 "callable",
  zB P ⟨#[99, 104, 114]⟩ 15 "chr",
  zB P ⟨#[99, 111, 109, 112, 105, 108, 101]⟩ 16 "compile",
  zB P ⟨#[100, 101, 108, 97, 116, 116, 114]⟩ 17 "delattr",
  zB P ⟨#[100, 105, 114]⟩ 18 "dir",
  zB P ⟨#[100, 105, 118, 109, 111, 100]⟩ 19 "divmod",
  zB P ⟨#[101, 118, 97, 108]⟩ 20 "eval",
  zB P ⟨#[101, 120, 101, 99]⟩ 21 "exec",
  zB P ⟨#[102, 111, 114, 109, 97, 116]⟩ 22 "format",
  zB P ⟨#[103, 101, 116, 97, 116, 116, 114]⟩ 23 "getattr",
  zB P ⟨#[103, 108, 111, 98, 97, 108, 115]⟩ 24 "globals",
  zB P ⟨#[104, 97, 115, 97, 116, 116, 114]⟩ 25 "hasattr",
  zB P ⟨#[104, 97, 115, 104]⟩ 26 "hash",
  zB P ⟨#[104, 101, 120]⟩ 27 "hex",
  zB P ⟨#[105, 100]⟩ 28 "id",
  zB P ⟨#[105, 110, 112, 117, 116]⟩ 29 "input",
  zB P ⟨#[105, 115, 105, 110, 115, 116, 97, 110, 99, 101]⟩ 30 "isinstance",
  zB P ⟨#[105, 115, 115, 117, 98, 99, 108, 97, 115, 115]⟩ 31 "issubclass",
  zB P ⟨#[105, 116, 101, 114]⟩ 32 "iter",
  zB P ⟨#[97, 105, 116, 101, 114]⟩ 33 "aiter",
  zB P ⟨#[108, 101, 110]⟩ 34 "len",
  zB P ⟨#[108, 111, 99, 97, 108, 115]⟩ 35 "locals",
  zB P ⟨#[109, 97, 120]⟩ 36 "max",
  zB P ⟨#[109, 105, 110]⟩ 37 "min",
  zB P ⟨#[110, 101, 120, 116]⟩ 38 "next",
  zB P ⟨#[97, 110, 101, 120, 116]⟩ 39 "anext",
  zB P ⟨#[111, 99, 116]⟩ 40 "oct",
  zB P ⟨#[111, 114, 100]⟩ 41 "ord",
  zB P ⟨#[112, 111, 119]⟩ 42 "pow",
  zB P ⟨#[112, 114, 105, 110, 116]⟩ 43 "print",
  zB P ⟨#[114, 101, 112, 114]⟩ 44 "repr",
  zB P ⟨#[114, 111, 117, 110, 100]⟩ 45 "round",
  zB P ⟨#[115, 101, 116, 97, 116, 116, 114]⟩ 46 "setattr",
  zB P ⟨#[115, 111, 114, 116, 101, 100]⟩ 47 "sorted",
  zB P ⟨#[115, 117, 109]⟩ 48 "sum",
  zB P ⟨#[118, 97, 114, 115]⟩ 49 "vars",
  zE P ⟨#[78, 111, 110, 101]⟩ 50 (.none),
  zE P ⟨#[69, 108, 108, 105, 112, 115, 105, 115]⟩ 51 (.ellipsis),
  zE P ⟨#[78, 111, 116, 73, 109, 112, 108, 101, 109, 101, 110, 116, 101, 100]⟩ 52 (.notImplemented),
  zE P ⟨#[70, 97, 108, 115, 101]⟩ 53 (.bool false),
  zE P ⟨#[84, 114, 117, 101]⟩ 54 (.bool true),
  zE P ⟨#[98, 111, 111, 108]⟩ 55 (zT "bool"),
  zE P ⟨#[109, 101, 109, 111, 114, 121, 118, 105, 101, 119]⟩ 56 (zT "memoryview"),
  zE P ⟨#[98, 121, 116, 101, 97, 114, 114, 97, 121]⟩ 57 (zT "bytearray"),
  zE P ⟨#[98, 121, 116, 101, 115]⟩ 58 (zT "bytes"),
  zE P ⟨#[99, 108, 97, 115, 115, 109, 101, 116, 104, 111, 100]⟩ 59 (zT "classmethod"),
  zE P ⟨#[99, 111, 109, 112, 108, 101, 120]⟩ 60 (zT "complex"),
  zE P ⟨#[100, 105, 99, 116]⟩ 61 (zT "dict"),
  zE P ⟨#[101, 110, 117, 109, 101, 114, 97, 116, 101]⟩ 62 (zT "enumerate"),
  zE P ⟨#[102, 105, 108, 116, 101, 114]⟩ 63 (zT "filter"),
  zE P ⟨#[102, 108, 111, 97, 116]⟩ 64 (zT "float"),
  zE P ⟨#[102, 114, 111, 122, 101, 110, 115, 101, 116]⟩ 65 (zT "frozenset"),
  zE P ⟨#[112, 114, 111, 112, 101, 114, 116, 121]⟩ 66 (zT "property"),
  zE P ⟨#[105, 110, 116]⟩ 67 (zT "int"),
  zE P ⟨#[108, 105, 115, 116]⟩ 68 (zT "list"),
  zE P ⟨#[109, 97, 112]⟩ 69 (zT "map"),
  zE P ⟨#[111, 98, 106, 101, 99, 116]⟩ 70 (zT "object"),
  zE P ⟨#[114, 97, 110, 103, 101]⟩ 71 (zT "range"),
  zE P ⟨#[114, 101, 118, 101, 114, 115, 101, 100]⟩ 72 (zT "reversed"),
  zE P ⟨#[115, 101, 116]⟩ 73 (zT "set"),
  zE P ⟨#[115, 108, 105, 99, 101]⟩ 74 (zT "slice"),
  zE P ⟨#[115, 116, 97, 116, 105, 99, 109, 101, 116, 104, 111, 100]⟩ 75 (zT "staticmethod"),
  zE P ⟨#[115, 116, 114]⟩ 76 (zT "str"),
  zE P ⟨#[115, 117, 112, 101, 114]⟩ 77 (zT "super"),
  zE P ⟨#[116, 117, 112, 108, 101]⟩ 78 (zT "tuple"),
  zE P ⟨#[116, 121, 112, 101]⟩ 79 (zT "type"),
  zE P ⟨#[122, 105, 112]⟩ 80 (zT "zip"),
  zE P ⟨#[95, 95, 100, 101, 98, 117, 103, 95, 95]⟩ 81 (.bool true)] ++ es.toList.drop 81).toArray 159, #[]⟩
 | _ => default
noncomputable def o1 (P : Params) : Obj := ⟨.type "dict", none, .dict #[zE P ⟨#[98, 117, 105, 108, 116, 105, 110, 115]⟩ 162 (zR 4),
  zE P y69 163 (zR 5),
  zE P ⟨#[95, 115, 114, 101]⟩ 244 (zR 12),
  zE P ⟨#[95, 99, 111, 108, 108, 101, 99, 116, 105, 111, 110, 115]⟩ 292 (zR 30)] 4, #[]⟩
noncomputable def o2 (P : Params) : Obj := ⟨.none, none, .dict #[zE P y76 183 (.bool true),
  zE P y77 185 (zR 14),
  zE P y78 206 (zR 18),
  zE P y79 216 (zR 22),
  zE P y80 245 (zI 4 0),
  zE P y81 270 (.bool true),
  zE P y82 272 (zR 27),
  zE P y83 0 (zS ⟨#[12, 30]⟩ 0),
  zE P y84 273 (zS y85 0),
  zE P y86 280 (.bool true),
  zE P y87 294 (.bool true),
  zE P y88 309 (.bool true),
  zE P y89 311 (zS y90 0),
  zE P ⟨#[116, 121, 112, 101, 46, 95, 95, 115, 117, 98, 99, 108, 97, 115, 115, 101, 115, 95, 95, 46, 79, 83, 69, 114, 114, 111, 114, 46, 48]⟩ 641 (zI 134 0),
  zE P ⟨#[116, 121, 112, 101, 46, 95, 95, 115, 117, 98, 99, 108, 97, 115, 115, 101, 115, 95, 95, 46, 79, 83, 69, 114, 114, 111, 114, 46, 110]⟩ 642 (zI 1 0)] 15, #[]⟩
noncomputable def o3 (P : Params) : Obj := ⟨.type "dict", none, .dict #[zE P y65 165 (zS Sj 1471),
  zE P y29 166 (.none),
  zE P y66 167 (.none),
  zB P y67 168 "__main__.__loader__#opaque",
  zE P y68 169 (.none),
  zE P ⟨#[95, 95, 97, 110, 110, 111, 116, 97, 116, 105, 111, 110, 115, 95, 95]⟩ 170 (zR 6),
  zE P ⟨#[95, 95, 98, 117, 105, 108, 116, 105, 110, 115, 95, 95]⟩ 171 (zR 4),
  zE P ⟨#[95, 95, 102, 105, 108, 101, 95, 95]⟩ 173 (zS y70 172),
  zE P ⟨#[95, 95, 99, 97, 99, 104, 101, 100, 95, 95]⟩ 174 (.none),
  zE P ⟨#[95, 115, 114, 101]⟩ 275 (zR 12),
  zE P ⟨#[100, 101, 113, 117, 101]⟩ 317 (zT "collections.deque"),
  zE P ⟨#[95, 119, 97, 108, 108]⟩ 330 (zR 44),
  zE P y38 390 (zR 82),
  zE P ⟨#[95, 116, 119, 105, 110, 95, 114, 101, 95, 49]⟩ 428 (zR 91),
  zE P ⟨#[95, 115, 112, 101, 99, 105, 97, 108, 95, 99, 104, 97, 114, 115, 95, 109, 97, 112]⟩ 576 (zR 93),
  zE P y44 583 (zR 103),
  zE P y45 604 (zR 110),
  zE P ⟨#[95, 119, 104, 101, 110, 99, 101]⟩ 614 (zR 117),
  zE P y46 622 (zR 124),
  zE P ⟨#[85, 110, 115, 117, 112, 112, 111, 114, 116, 101, 100, 79, 112, 101, 114, 97, 116, 105, 111, 110]⟩ 644 (zR 134),
  zE P y39 676 (zR 154),
  zE P y40 694 (zR 169),
  zE P Yv 712 (zR 181),
  zE P y41 974 (zR 411),
  zE P y42 1261 (zR 658),
  zE P ⟨#[95, 107, 105, 110, 100]⟩ 1272 (zR 667),
  zE P ⟨#[95, 102, 115, 112, 97, 116, 104]⟩ 1281 (zR 674),
  zE P ⟨#[95, 99, 104, 101, 99, 107, 95, 97, 114, 103, 95, 116, 121, 112, 101, 115]⟩ 1291 (zR 681),
  zE P ⟨#[105, 115, 97, 98, 115]⟩ 1298 (zR 688),
  zE P ⟨#[106, 111, 105, 110]⟩ 1309 (zR 695),
  zE P ⟨#[100, 105, 114, 110, 97, 109, 101]⟩ 1319 (zR 702),
  zE P y43 1460 (zR 793),
  zE P y47 1470 (zR 805),
  zE P y48 1478 (zR 812),
  zE P y49 1484 (zR 819),
  zE P y50 1492 (zR 826),
  zE P y51 1501 (zR 833),
  zE P y52 1512 (zR 840),
  zE P y53 1518 (zR 845),
  zE P y54 1532 (zR 852),
  zE P y55 1540 (zR 859),
  zE P y56 1546 (zR 864),
  zE P y57 1555 (zR 871),
  zE P y58 1566 (zR 878),
  zE P ⟨#[108, 97, 119]⟩ 1572 (zR 883)] 45, #[]⟩
noncomputable def o4 (P : Params) : Obj := ⟨.type "module", (some 0), .plain, #[]⟩
noncomputable def o57 (P : Params) : Obj := Hu y33 y91 345 9 2 0 0 3 52 53 (zR 54) (zR 55) 56 350 351
noncomputable def o58 (P : Params) : Obj := Ht [4, 0] y91 (.none) (zS y59 331) 57
noncomputable def o64 (P : Params) : Obj := Hu ⟨#[95, 114, 101, 97, 100, 95, 99, 104, 97, 114]⟩ y92 353 15 1 0 0 3 59 60 (zR 61) (zR 62) 63 358 359
noncomputable def Vk (P : Params) : Obj := Ht [4, 1] y92 (.none) (zS y59 331) 64
noncomputable def o71 (P : Params) : Obj := Hu y60 y93 361 21 1 0 0 3 66 67 (zR 68) (zR 69) 70 368 369
noncomputable def o72 (P : Params) : Obj := Ht [4, 2] y93 (.none) (zS y59 331) 71
noncomputable def o81 (P : Params) : Obj := ⟨.type "dict", none, .dict #[zE P y34 340 (zS y59 331),
  zE P y35 344 (zI 7 343),
  zE P y33 352 (zR 58),
  zE P ⟨#[95, 114, 101, 97, 100, 95, 99, 104, 97, 114]⟩ 360 (zR 65),
  zE P y60 370 (zR 72),
  zE P y94 378 (zR 79),
  zE P y36 383 (zR 80),
  zE P y71 385 (zR 83),
  zE P y72 387 (zR 84),
  zE P y29 388 (.none)] 4, #[]⟩
noncomputable def o82 (P : Params) : Obj := ⟨.type "type", none, .cls ⟨y38, [zT "object"], [zR 82, zT "object"], 81, y38, true, [], [], false, none, false⟩, #[none, none, some (zS y38 333), some (zS y38 341), some (zU "object.__new__"), some (.bool true)]⟩
noncomputable def o90 (P : Params) : Obj := ⟨.type "tuple", none, .seq #[zI 14 0, zI 14 0, zI 4 0, zI 1 0, zI 1 0, zI 9 0, zI 0 0, zI 64 0, zI 0 0, zI 1342177280 0, zI 0 0, zI 0 0, zI 0 0, zI 0 0, zI 0 0, zI 17 0, zI 0 0, zI 13 0, zI 11 0, zI 9 0, zI 0 0, zI 64 0, zI 0 0, zI 1342177280 0, zI 0 0, zI 0 0, zI 0 0, zI 0 0, zI 0 0, zI 17 0, zI 1 0, zI 1 0] 0, #[]⟩
noncomputable def o91 (P : Params) : Obj := ⟨.type "re.Pattern", none, .fields #[zS ⟨#[40, 91, 38, 126, 124, 93, 41]⟩ 392, zI 32 427, zI 1 0, .none, .none, zR 90, zI 0 0], #[]⟩
noncomputable def o93 (P : Params) : Obj := ⟨.type "dict", none, .dict #[⟨40, zI 40 432, zS ⟨#[92, 40]⟩ 436⟩,
  ⟨41, zI 41 438, zS ⟨#[92, 41]⟩ 442⟩,
  ⟨91, zI 91 444, zS ⟨#[92, 91]⟩ 448⟩,
  ⟨93, zI 93 450, zS ⟨#[92, 93]⟩ 454⟩,
  ⟨123, zI 123 456, zS ⟨#[92, 123]⟩ 460⟩,
  ⟨125, zI 125 462, zS ⟨#[92, 125]⟩ 466⟩,
  ⟨63, zI 63 468, zS ⟨#[92, 63]⟩ 472⟩,
  ⟨42, zI 42 474, zS ⟨#[92, 42]⟩ 478⟩,
  ⟨43, zI 43 480, zS ⟨#[92, 43]⟩ 484⟩,
  ⟨45, zI 45 486, zS ⟨#[92, 45]⟩ 490⟩,
  ⟨124, zI 124 492, zS ⟨#[92, 124]⟩ 496⟩,
  ⟨94, zI 94 498, zS ⟨#[92, 94]⟩ 502⟩,
  ⟨36, zI 36 504, zS ⟨#[92, 36]⟩ 508⟩,
  ⟨92, zI 92 510, zS ⟨#[92, 92]⟩ 514⟩,
  ⟨46, zI 46 516, zS Nv 520⟩,
  ⟨38, zI 38 522, zS ⟨#[92, 38]⟩ 526⟩,
  ⟨126, zI 126 528, zS ⟨#[92, 126]⟩ 532⟩,
  ⟨35, zI 35 534, zS ⟨#[92, 35]⟩ 538⟩,
  ⟨32, zI 32 540, zS ⟨#[92, 32]⟩ 544⟩,
  ⟨9, zI 9 546, zS ⟨#[92, 9]⟩ 550⟩,
  ⟨10, zI 10 552, zS ⟨#[92, 10]⟩ 556⟩,
  ⟨13, zI 13 558, zS ⟨#[92, 13]⟩ 562⟩,
  ⟨11, zI 11 564, zS ⟨#[92, 11]⟩ 568⟩,
  ⟨12, zI 12 570, zS ⟨#[92, 12]⟩ 574⟩] 24, #[]⟩
noncomputable def Uc (P : Params) : Obj := Hu y44 y44 577 53 1 0 0 3 97 98 (zR 99) (zR 100) 101 581 582
noncomputable def To (P : Params) : Obj := Ht [8] y44 (.none) (zS ⟨#[114, 101]⟩ 429) 102
noncomputable def Vj (P : Params) : Obj := Hu y45 y45 586 60 3 0 0 3 104 105 (zR 106) (zR 107) 108 602 603
noncomputable def Va (P : Params) : Obj := Ht [10] y45 (.none) (zS ⟨#[99, 112, 121, 51, 49, 51, 46, 102, 110, 109, 97, 116, 99, 104]⟩ 584) 109
noncomputable def Ul (P : Params) : Obj := Hu y46 y46 615 128 2 0 0 3 118 119 (zR 120) (zR 121) 122 620 621
noncomputable def Vg (P : Params) : Obj := Ht [13] y46 (.none) (zS Sw 605) 123
noncomputable def Ug (P : Params) : Obj := Hu ⟨#[95, 95, 110, 101, 119, 95, 95]⟩ y95 659 140 1 1 0 15 145 146 (zR 147) (zR 148) 149 665 666
noncomputable def V1 (P : Params) : Obj := Ht [15, 1] y95 (.none) (zS Sw 605) 150
noncomputable def Vp (P : Params) : Obj := ⟨.type "dict", none, .dict #[zE P y34 652 (zS Sw 657),
  zE P y35 656 (zI 137 655),
  zE P ⟨#[95, 95, 110, 101, 119, 95, 95]⟩ 667 (zR 155),
  zE P y36 668 (zR 152),
  zE P y71 671 (zR 156),
  zE P y72 673 (zR 157),
  zE P y29 674 (.none)] 4, #[]⟩
noncomputable def W4 (P : Params) : Obj := ⟨.type "type", none, .cls ⟨y39, [zT "object"], [zR 154, zT "object"], 153, y39, true, [], [zR 169, zR 181], false, none, false⟩, #[none, none, some (zS y39 645), some (zS y39 653), some (.none), some (.bool true)]⟩
noncomputable def Tg (P : Params) : Obj := ⟨.type "staticmethod", none, .fields #[zR 151], #[]⟩
noncomputable def V9 (P : Params) : Obj := ⟨.type "dict", none, .dict #[zE P y34 702 (zS Sw 707),
  zE P y35 706 (zI 146 705),
  zE P y36 709 (zR 179),
  zE P y29 710 (.none)] 2, #[]⟩
noncomputable def Adl (P : Params) : Obj := ⟨.type "type", none, .cls ⟨Yv, [zR 154], [zR 181, zR 154, zT "object"], 180, Yv, true, [], [zR 658], false, none, false⟩, #[some (zR 172), none, some (zS Yv 695), some (zS Yv 703), some (.none), some (.bool true)]⟩
noncomputable def Ye (P : Params) : Obj := ⟨.type "type", none, .cls ⟨y41, [zR 169], [zR 411, zR 169, zR 154, zT "object"], 410, y41, true, [], [], false, none, false⟩, #[some (zR 184), none, some (zS y41 713), some (zS y41 721), some (.none), some (.bool true)]⟩
noncomputable def Aem (P : Params) : Obj := ⟨.type "tuple", none, .seq #[zS ⟨#[]⟩ 989, zS ⟨#[10]⟩ 990] 0, #[]⟩
noncomputable def Adt (P : Params) : Obj := Hu y33 y96 991 321 3 0 0 3 422 423 (zR 424) (zR 425) 426 997 998
noncomputable def Adq (P : Params) : Obj := Ht [19, 1] y96 (zR 421) (zS Sw 605) 427
noncomputable def Afe (P : Params) : Obj := Hu ⟨#[95, 95, 116, 114, 97, 110, 115, 108, 97, 116, 101, 100]⟩ y97 1000 334 2 0 0 3 429 430 (zR 431) (zR 432) 433 1006 1007
noncomputable def Ac9 (P : Params) : Obj := Ht [19, 2] y97 (.none) (zS Sw 605) 434
noncomputable def Aez (P : Params) : Obj := Hu ⟨#[95, 95, 99, 104, 101, 99, 107]⟩ y98 1009 342 1 0 0 3 436 437 (zR 438) (zR 439) 440 1013 1014
noncomputable def Afg (P : Params) : Obj := Ht [19, 3] y98 (.none) (zS Sw 605) 441
noncomputable def Ae2 (P : Params) : Obj := ⟨.type "tuple", none, .seq #[zI (-1) 1182] 0, #[]⟩
noncomputable def Aej (P : Params) : Obj := Hu ⟨#[114, 101, 97, 100]⟩ y99 1183 464 2 2 0 3 598 599 (zR 600) (zR 601) 602 1190 1191
noncomputable def Aev (P : Params) : Obj := Ht [19, 25] y99 (zR 597) (zS Sw 605) 603
noncomputable def Adb (P : Params) : Obj := ⟨.type "dict", none, .dict #[zE P y34 982 (zS ⟨#[95, 105, 111]⟩ 987),
  zE P y35 986 (zI 318 985),
  zE P y33 999 (zR 428),
  zE P ⟨#[95, 83, 116, 114, 105, 110, 103, 73, 79, 95, 95, 116, 114, 97, 110, 115, 108, 97, 116, 101, 100]⟩ 1008 (zR 435),
  zE P ⟨#[95, 83, 116, 114, 105, 110, 103, 73, 79, 95, 95, 99, 104, 101, 99, 107]⟩ 1015 (zR 442),
  zE P ⟨#[95, 83, 116, 114, 105, 110, 103, 73, 79, 95, 95, 99, 104, 101, 99, 107, 95, 100, 111, 116]⟩ 1022 (zR 449),
  zE P ⟨#[95, 83, 116, 114, 105, 110, 103, 73, 79, 95, 95, 108, 105, 110, 101]⟩ 1037 (zR 456),
  zE P ⟨#[99, 108, 111, 115, 101, 100]⟩ 1045 (zR 464),
  zE P ⟨#[108, 105, 110, 101, 95, 98, 117, 102, 102, 101, 114, 105, 110, 103]⟩ 1053 (zR 472),
  zE P ⟨#[110, 101, 119, 108, 105, 110, 101, 115]⟩ 1061 (zR 480),
  zE P ⟨#[101, 110, 99, 111, 100, 105, 110, 103]⟩ 1069 (zR 488),
  zE P ⟨#[101, 114, 114, 111, 114, 115]⟩ 1077 (zR 496),
  zE P ⟨#[99, 108, 111, 115, 101]⟩ 1084 (zR 503),
  zE P ⟨#[95, 95, 101, 110, 116, 101, 114, 95, 95]⟩ 1091 (zR 510),
  zE P ⟨#[95, 95, 101, 120, 105, 116, 95, 95]⟩ 1099 (zR 517),
  zE P ⟨#[114, 101, 97, 100, 97, 98, 108, 101]⟩ 1106 (zR 524),
  zE P ⟨#[119, 114, 105, 116, 97, 98, 108, 101]⟩ 1113 (zR 531),
  zE P ⟨#[115, 101, 101, 107, 97, 98, 108, 101]⟩ 1120 (zR 538),
  zE P ⟨#[105, 115, 97, 116, 116, 121]⟩ 1127 (zR 545),
  zE P ⟨#[102, 108, 117, 115, 104]⟩ 1134 (zR 552),
  zE P ⟨#[102, 105, 108, 101, 110, 111]⟩ 1141 (zR 559),
  zE P ⟨#[100, 101, 116, 97, 99, 104]⟩ 1148 (zR 566),
  zE P ⟨#[103, 101, 116, 118, 97, 108, 117, 101]⟩ 1155 (zR 573),
  zE P ⟨#[116, 101, 108, 108]⟩ 1162 (zR 580),
  zE P ⟨#[115, 101, 101, 107]⟩ 1172 (zR 588),
  zE P ⟨#[116, 114, 117, 110, 99, 97, 116, 101]⟩ 1180 (zR 596),
  zE P ⟨#[114, 101, 97, 100]⟩ 1192 (zR 604),
  zE P ⟨#[114, 101, 97, 100, 108, 105, 110, 101]⟩ 1202 (zR 612),
  zE P ⟨#[114, 101, 97, 100, 108, 105, 110, 101, 115]⟩ 1212 (zR 620),
  zE P y73 1219 (zR 627),
  zE P y74 1227 (zR 634),
  zE P ⟨#[119, 114, 105, 116, 101]⟩ 1239 (zR 641),
  zE P ⟨#[119, 114, 105, 116, 101, 108, 105, 110, 101, 115]⟩ 1247 (zR 648),
  zE P ⟨#[95, 95, 114, 101, 112, 114, 95, 95]⟩ 1254 (zR 655),
  zE P y36 1258 (zR 656),
  zE P y29 1259 (.none)] 2, #[]⟩
noncomputable def Adz (P : Params) : Obj := ⟨.type "type", none, .cls ⟨y42, [zR 181], [zR 658, zR 181, zR 154, zT "object"], 657, y42, true, [], [], false, none, false⟩, #[some (zR 414), none, some (zS y42 975), some (zS y42 983), some (.none), some (.bool true)]⟩
noncomputable def Aks (P : Params) : Obj := ⟨.type "tuple", none, .seq #[.none, .none, .bool false, .bool false] 0, #[]⟩
noncomputable def Agu (P : Params) : Obj := Hu y33 Ajw 1334 589 5 0 0 3 711 712 (zR 713) (zR 714) 715 1343 1344
noncomputable def Akk (P : Params) : Obj := Ht [28, 0] Ajw (zR 710) (zS y31 1320) 716
noncomputable def Ajg (P : Params) : Obj := Hu y75 Ahx 1346 630 1 0 0 3 718 719 (zR 720) (zR 721) 722 1350 1351
noncomputable def Aih (P : Params) : Obj := Ht [28, 1] Ahx (.none) (zS y31 1320) 723
noncomputable def Ajj (P : Params) : Obj := ⟨.type "property", none, .fields #[zR 724, .none, .none, .none, zS y75 1353, .bool false], #[]⟩
noncomputable def Ahk (P : Params) : Obj := Hu y60 Agl 1378 657 1 0 0 3 748 749 (zR 750) (zR 751) 752 1387 1388
noncomputable def Akn (P : Params) : Obj := Ht [28, 5] Agl (.none) (zS y31 1320) 753
noncomputable def Agb (P : Params) : Obj := Hu Aiw Ajb 1390 684 1 0 0 3 755 756 (zR 757) (zR 758) 759 1398 1399
noncomputable def Aim (P : Params) : Obj := Ht [28, 6] Ajb (.none) (zS y31 1320) 760
noncomputable def Ahh (P : Params) : Obj := Hu y73 Aki 1418 831 1 0 0 3 777 778 (zR 779) (zR 780) 781 1422 1423
noncomputable def Ag4 (P : Params) : Obj := Ht [28, 9] Aki (.none) (zS y31 1320) 782
noncomputable def Akq (P : Params) : Obj := Hu y74 Aju 1425 834 1 0 0 3 784 785 (zR 786) (zR 787) 788 1430 1431
noncomputable def Agy (P : Params) : Obj := Ht [28, 10] Aju (.none) (zS y31 1320) 789
noncomputable def Ake (P : Params) : Obj := ⟨.type "dict", none, .dict #[zE P y34 1329 (zS y31 1320),
  zE P y35 1333 (zI 587 1332),
  zE P y33 1345 (zR 717),
  zE P y75 1353 (zR 725),
  zE P y94 1361 (zR 732),
  zE P ⟨#[112, 117, 115, 104, 95, 115, 111, 117, 114, 99, 101]⟩ 1370 (zR 740),
  zE P ⟨#[112, 111, 112, 95, 115, 111, 117, 114, 99, 101]⟩ 1377 (zR 747),
  zE P y60 1389 (zR 754),
  zE P Aiw 1400 (zR 761),
  zE P ⟨#[115, 111, 117, 114, 99, 101, 104, 111, 111, 107]⟩ 1408 (zR 768),
  zE P ⟨#[101, 114, 114, 111, 114, 95, 108, 101, 97, 100, 101, 114]⟩ 1417 (zR 776),
  zE P y73 1424 (zR 783),
  zE P y74 1432 (zR 790),
  zE P y36 1453 (zR 791),
  zE P y71 1455 (zR 794),
  zE P y72 1457 (zR 795),
  zE P y29 1458 (.none)] 4, #[]⟩
noncomputable def Age (P : Params) : Obj := ⟨.type "type", none, .cls ⟨y43, [zT "object"], [zR 793, zT "object"], 792, y43, true, [], [], false, none, false⟩, #[none, none, some (zS y43 1322), some (zS y43 1330), some (zU "object.__new__"), some (.bool true)]⟩
noncomputable def Ajq (P : Params) : Obj := ⟨.type "tuple", none, .seq #[.bool false, .bool true] 0, #[]⟩
noncomputable def Aj1 (P : Params) : Obj := Hu y47 y47 1461 839 3 0 0 3 799 800 (zR 801) (zR 802) 803 1468 1469
noncomputable def Ait (P : Params) : Obj := Ht [29] y47 (zR 798) (zS y31 1320) 804
noncomputable def Ak5 (P : Params) : Obj := Hu y48 y48 1473 848 0 0 0 3 806 807 (zR 808) (zR 809) 810 1476 1477
noncomputable def Ak9 (P : Params) : Obj := Ht [31] y48 (.none) (zS Sj 1471) 811
noncomputable def Ahq (P : Params) : Obj := Hu y49 y49 1479 850 0 0 0 3 813 814 (zR 815) (zR 816) 817 1482 1483
noncomputable def Aip (P : Params) : Obj := Ht [32] y49 (.none) (zS Sj 1471) 818
noncomputable def Ahl (P : Params) : Obj := Hu y50 y50 1485 852 1 0 0 3 820 821 (zR 822) (zR 823) 824 1490 1491
noncomputable def Akt (P : Params) : Obj := Ht [33] y50 (.none) (zS Sj 1471) 825
noncomputable def Agv (P : Params) : Obj := Hu y51 y51 1493 855 1 0 0 3 827 828 (zR 829) (zR 830) 831 1499 1500
noncomputable def Aha (P : Params) : Obj := Ht [34] y51 (.none) (zS Sj 1471) 832
noncomputable def Air (P : Params) : Obj := Hu y52 y52 1502 860 1 0 0 3 834 835 (zR 836) (zR 837) 838 1510 1511
noncomputable def Aic (P : Params) : Obj := Ht [35] y52 (.none) (zS Sj 1471) 839
noncomputable def Al0 (P : Params) : Obj := Hu y53 y53 1513 867 1 0 0 3 841 842 (.none) (.none) 843 1516 1517
noncomputable def Agi (P : Params) : Obj := Ht [36] y53 (.none) (zS Sj 1471) 844
noncomputable def Akb (P : Params) : Obj := Hu y54 y54 1519 879 1 0 0 3 846 847 (zR 848) (zR 849) 850 1530 1531
noncomputable def Aiy (P : Params) : Obj := Ht [37] y54 (.none) (zS Sj 1471) 851
noncomputable def Akr (P : Params) : Obj := Hu y55 y55 1533 894 2 0 0 3 853 854 (zR 855) (zR 856) 857 1538 1539
noncomputable def Ah3 (P : Params) : Obj := Ht [38] y55 (.none) (zS Sj 1471) 858
noncomputable def Agn (P : Params) : Obj := Hu y56 y56 1541 898 2 0 0 3 860 861 (.none) (.none) 862 1544 1545
noncomputable def Aj3 (P : Params) : Obj := Ht [39] y56 (.none) (zS Sj 1471) 863
noncomputable def Ahb (P : Params) : Obj := Hu y57 y57 1547 907 2 0 0 3 865 866 (zR 867) (zR 868) 869 1553 1554
noncomputable def Ahc (P : Params) : Obj := Ht [40] y57 (.none) (zS Sj 1471) 870
noncomputable def Agr (P : Params) : Obj := Hu y58 y58 1556 914 2 0 0 3 872 873 (zR 874) (zR 875) 876 1564 1565
noncomputable def Aiu (P : Params) : Obj := Ht [41] y58 (.none) (zS Sj 1471) 877
noncomputable def Akp (P : Params) : Obj := ⟨.none, none, .fields #[], #[]⟩
noncomputable def Ag3 (P : Params) : Obj := Hu ⟨#[108, 97, 119]⟩ ⟨#[108, 97, 119]⟩ 1567 919 1 0 0 3 879 880 (.none) (.none) 881 1570 1571
noncomputable def Akm (P : Params) : Obj := Ht [42] ⟨#[108, 97, 119]⟩ (.none) (zS Sj 1471) 882
noncomputable def KQ (P : Params) : Frag := [(0, o0 P), (1, o1 P), (2, o2 P), (3, o3 P), (4, o4 P), (57, o57 P), (58, o58 P), (64, o64 P), (65, Vk P), (71, o71 P), (72, o72 P), (81, o81 P), (82, o82 P), (90, o90 P), (91, o91 P), (93, o93 P), (102, Uc P), (103, To P), (109, Vj P), (110, Va P), (123, Ul P), (124, Vg P), (150, Ug P), (151, V1 P), (153, Vp P), (154, W4 P), (155, Tg P), (180, V9 P), (181, Adl P), (411, Ye P), (421, Aem P), (427, Adt P), (428, Adq P), (434, Afe P), (435, Ac9 P), (441, Aez P), (442, Afg P), (597, Ae2 P), (603, Aej P), (604, Aev P), (657, Adb P), (658, Adz P), (710, Aks P), (716, Agu P), (717, Akk P), (723, Ajg P), (724, Aih P), (725, Ajj P), (753, Ahk P), (754, Akn P), (760, Agb P), (761, Aim P), (782, Ahh P), (783, Ag4 P), (789, Akq P), (790, Agy P), (792, Ake P), (793, Age P), (798, Ajq P), (804, Aj1 P), (805, Ait P), (811, Ak5 P), (812, Ak9 P), (818, Ahq P), (819, Aip P), (825, Ahl P), (826, Akt P), (832, Agv P), (833, Aha P), (839, Air P), (840, Aic P), (844, Al0 P), (845, Agi P), (851, Akb P), (852, Aiy P), (858, Akr P), (859, Ah3 P), (863, Agn P), (864, Aj3 P), (870, Ahb P), (871, Ahc P), (877, Agr P), (878, Aiu P), (880, Akp P), (882, Ag3 P), (883, Akm P)]
noncomputable abbrev ze : KT := .nil
noncomputable abbrev zn (l r : KT) : KT := .node none l r
noncomputable abbrev zx (o : Obj) : KT := .node (some o) .nil .nil
noncomputable def Mq (P : Params) : KT := (.node (some (o0 P)) (.node (some (o1 P)) (.node (some (o3 P)) (zn (zn (zn ze (zn ze (zn (zn ze (zx (Agn P))) ze))) (zn (zn (zn (zn ze (zx (Ag4 P))) ze) ze) ze)) (zn (zn (.node (some (o71 P)) ze (zn (zn ze (zx (Air P))) ze)) (.node (some (To P)) ze (zn (zn ze (zx (Ahc P))) ze))) (zn (zn (zx (V1 P)) ze) ze))) (zn (zn ze (zn (zn ze (zn (zn ze (zx (Akb P))) (zn (zx (Ajg P)) ze))) (zn (zn (zn ze (zx (Aip P))) (zx (Ac9 P))) (zn (zn ze (zx (Akm P))) ze)))) (zn (zn ze (zn (zn (zn ze (zx (Ak5 P))) (zx (Adt P))) ze)) (zn (.node (some (o91 P)) (.node (some (Tg P)) ze (zx (Ye P))) (zn (zn (zx (Aej P)) (zx (Ah3 P))) ze)) (zx (Ul P)))))) (zn (zn (zn (zn (.node (some (Vk P)) ze (zn (zn ze (zx (Aha P))) ze)) ze) (zn (.node (some (o81 P)) (zn ze (zn (zx (Adb P)) ze)) ze) (zn ze (zn ze (zn (zx (Ahk P)) ze))))) (zn ze (.node (some (o57 P)) (zn (.node (some (Vp P)) (zn ze (zx (Age P))) ze) ze) (zn (zn (zn ze (zx (Ahl P))) (zx (Aez P))) (zn ze (zn (zx (Aim P)) ze)))))) (zn (zn (zn ze (zn (zn (zn ze (zx (Ait P))) (zx (Aem P))) ze)) (zn (zn (zn (zn ze (zx (Akq P))) ze) (zn (zn (zx (Ae2 P)) ze) (zn (zx (Ajj P)) ze))) (zn (zx (Adl P)) ze))) (zn (zn (zn ze (zn (zn ze (zx (Agi P))) (zn (zx (Akk P)) ze))) (.node (some (Vj P)) ze (zn (zn ze (zx (Agr P))) ze))) (zn (zx (o93 P)) ze))))) (.node (some (o2 P)) (.node (some (o4 P)) (zn (zn (zn (.node (some (o64 P)) ze (zn (zn ze (zx (Agv P))) ze)) (zn ze (zn (zn ze (zx (Aj3 P))) ze))) (zn ze (zn ze (zn (zn ze (zx (Akp P))) ze)))) (zn (zn (.node (some (o72 P)) ze (zn (zn ze (zx (Aic P))) ze)) ze) (zn (zn (zn (zn ze (zx (Ake P))) ze) ze) (zn ze (zn ze (zn (zx (Agb P)) ze)))))) (zn (zn (zn ze (zn (zn (zn ze (zx (Aj1 P))) ze) ze)) (zn (zn ze (zn (zn ze (zx (Aiy P))) (zn (zx (Aih P)) ze))) (zn (zx (V9 P)) ze))) (zn (zn (zn ze (zn (zn ze (zx (Al0 P))) (zn (zx (Agu P)) ze))) (zn (zn (zn ze (zx (Ak9 P))) (zx (Adq P))) ze)) (zn (zn ze (zn (zn (zx (Aev P)) ze) ze)) (zx (Vg P)))))) (zn (zn (zn ze (zn (.node (some (o82 P)) (zn ze (zn (zx (Adz P)) ze)) ze) (zn (zn (zn ze (zx (Ahq P))) (zx (Afe P))) (zn (zn ze (zx (Ag3 P))) (zn (zx (Akn P)) ze))))) (zn ze (.node (some (o58 P)) (.node (some (o90 P)) (zx (W4 P)) (zn (zn ze (zx (Akr P))) ze)) (zn (zn (zn ze (zx (Akt P))) (zx (Afg P))) ze)))) (zn (zn (zn (zn ze (zn ze (zn (zx (Aks P)) ze))) (.node (some (Uc P)) ze (zn (zn ze (zx (Ahb P))) ze))) (zn (zn (.node (some (Ug P)) (zn ze (zx (Agy P))) ze) ze) ze)) (zn (zn (zn (zn (zn ze (zx (Ahh P))) ze) ze) (.node (some (Va P)) ze (zn (zn ze (zx (Aiu P))) ze))) (zn (zn (zn (zn ze (zx (Ajq P))) ze) ze) ze))))))
noncomputable def den : Code -> Sem Fin := PySem.W.Fast.tw11892475500146522536 PySem.W.Fast.tw14364793385576792824
theorem Aei : denote table = den := by
 show denote table = PySem.W.Fast.tw11892475500146522536 PySem.W.Fast.tw14364793385576792824
 rw [table_eq_tree, <- PySem.W.Fast.te11892475500146522536, <- PySem.W.Fast.te14364793385576792824]
noncomputable def Abp : FuncData -> Args -> Sem (List (Str × Value)) := PySem.W.Fast.tw9782568553167038054
theorem Vl : bindArgs = Abp := PySem.W.Fast.te9782568553167038054
noncomputable def Agg := @PySem.W.Fast.tw11113344188204177931
theorem Yy : @newFunctionEnv = @Agg := PySem.W.Fast.te11113344188204177931
noncomputable def Ky : Code -> Bool := PySem.W.ZFast.zw17772548960776305114
theorem Gl : Code.quiet = Ky := PySem.W.ZFast.ze17772548960776305114
noncomputable def Vh (f : String -> Bool) (b1 b2 b3 : Bool) (r : String) : Bool :=
 match PySem.W.S.eqLit 10139888712337904147300001983332972444938612 r with
 | true => b1
 | false => match PySem.W.S.eqLit 2510650655181157320538776789020469319833841985448949215332 r with
  | true => b2
  | false => match PySem.W.S.eqLit 2831041637402183652179144184793551905427079684854878925927 r with
   | true => b3
   | false => f r
theorem Dk {n : Nat} {b r : String} (h : PySem.code b = n) (e : PySem.W.S.eqLit n r = true) : r = b :=
 PySem.code_inj _ _ (by rw [h, PySem.W.S.code_S]; exact Nat.eq_of_beq_eq_true e)
theorem Q1 (f : String -> Bool) : Vh f (f "special-get-raises") (f "comprehension-iter-twice") (f "fstring-hands-on-the-str") = f := by
 funext r
 unfold Vh
 split
 ·rename_i h; rw [Dk (b := "special-get-raises") (by decide +kernel) h]
 ·split
  ·rename_i h; rw [Dk (b := "comprehension-iter-twice") (by decide +kernel) h]
  ·split
   ·rename_i h; rw [Dk (b := "fstring-hands-on-the-str") (by decide +kernel) h]
   ·rfl
noncomputable def wf (w : World) (b1 b2 b3 : Bool) : World := { w with params := { w.params with followText := Vh w.params.followText b1 b2 b3 } }
theorem Zz (w : World) : wf w (w.params.followText "special-get-raises") (w.params.followText "comprehension-iter-twice") (w.params.followText "fstring-hands-on-the-str") = w := by
 unfold wf
 rw [Q1]
structure Fl where
 b1 : Bool
 w : World
 b2 : Bool
 b3 : Bool
noncomputable abbrev Fl.W (u : Fl) : World := wf u.w u.b1 u.b2 u.b3
noncomputable abbrev Fl.P (u : Fl) : Params := u.W.params
theorem Qd (w : World) : (Fl.mk (w.params.followText "special-get-raises") w (w.params.followText "comprehension-iter-twice") (w.params.followText "fstring-hands-on-the-str")).W = w := Zz w
inductive Kn where
 | base
 | ret (c : Code) (k : Result -> Sem Fin) (κ : Kn)
noncomputable def wt : Code -> Nat
 | .builtin id _ => match PySem.W.S.eqLit 35714603318786955769505017188 id with
  | true => 400
  | false => 5
 | _ => 1
noncomputable def Xv : Kn -> Nat
 | .base => 0
 | .ret c _ κ => wt c + Xv κ
structure Gen where
 v : Value
 di : Nat
 rd : List Nat
 wr : List (Nat × Obj)
 nw : List Obj
noncomputable def Rc (h : Heap) : List (Nat × Obj) -> Prop
 | [] => True
 | p :: l => h.get? p.1 = some p.2 /\ Rc h l
noncomputable def Mi : List (Nat × Obj) -> Heap -> Heap
 | [], h => h
 | p :: l, h => Mi l (h.update p.1 fun _ => p.2)
noncomputable def Ke : List Obj -> Heap -> Heap
 | [], h => h
 | o :: l, h => Ke l (h.push o)
noncomputable def Ac (prog : Program) (w : World) (c : Code) (tok n : Nat) (rd wr : List (Nat × Obj)) (nw : List Obj) (v : Value) (di : Nat) : Prop :=
 ∀ (A : Around) (s : Shared) (R : Result -> Shared -> Prop), A.handled = none -> A.depth <= 900 -> s.gens = #[] -> s.toks = tok -> s.heap.objs.size = n -> Rc s.heap rd ->
  R (.ok (.ret v)) { s with heap := Ke nw (Mi wr s.heap), toks := tok + di } -> codeAny (model prog w) A c R s
structure PV where
 prog : Program
 w : World
 kt : KT
 old : List Nat
 k : Nat
 B : Nat
 T₀ : Nat
 hb : Nat
 D : Nat
 leaf0 : Nat -> Code -> Nat -> Option (Value × Nat × List Prop)
 leaf1 : Nat -> Code -> Obj -> Nat -> Option (Nat × Value × Nat × List Prop)
 gen : Nat -> Option Gen
structure Res where
 c : Code
 κ : Kn
 t : Sem Fin
 T : BT
 m : Nat
 i : Nat
 l : List Nat
 r : List Nat
 ob : List Prop
noncomputable def Qi : List Nat -> Nat -> Nat
 | [], _ => 0
 | a :: l, j => match j with
  | 0 => a
  | j + 1 => Qi l j
noncomputable def Iq (V : PV) (j : Nat) : Nat := match Nat.blt j V.k with
 | true => Qi V.old j
 | false => V.B + (j - V.k)
noncomputable def rdQ (V : PV) (T : BT) : List Nat -> Option (List (Nat × Obj))
 | [] => some []
 | j :: l => match T.get j with
  | none => none
  | some o => match rdQ V T l with
   | none => none
   | some r => some ((Iq V j, o) :: r)
noncomputable def wrQ (V : PV) : List (Nat × Obj) -> BT -> Option (BT × List (Nat × Obj))
 | [], T => some (T, [])
 | p :: l, T => match T.get p.1 with
  | none => none
  | some _ => match p.2.isFreed with
   | true => none
   | false => match wrQ V l (T.set p.1 fun _ => p.2) with
    | none => none
    | some q => some (q.1, (Iq V p.1, p.2) :: q.2)
noncomputable def nwQ (V : PV) : List Obj -> BT -> Nat -> Option (BT × Nat)
 | [], T, m => some (T, m)
 | o :: l, T, m => match o.isFreed with
  | true => none
  | false => match (T.ins (V.k + m) o).get (V.k + m) with
   | none => none
   | some _ => nwQ V l (T.ins (V.k + m) o) (m + 1)
noncomputable abbrev Ih := Nat -> Code -> Kn -> Sem Fin -> BT -> Nat -> Nat -> List Nat -> List Nat -> List Prop -> Res
noncomputable def Ju : List DictEntry -> Bool
 | [] => true
 | e :: l => match e.key with
  | .str s _ => match PySem.W.Fast.sEq s ⟨#[115, 121, 115, 46, 114, 101, 99, 117, 114, 115, 105, 111, 110, 108, 105, 109, 105, 116]⟩ with
   | true => false
   | false => Ju l
  | _ => false
noncomputable def M3 (o : Obj) : Bool := match o.data with
 | .dict es _ => Ju es.toList
 | _ => false
noncomputable def Ni (a : Addr) (fd : FuncData) (args : Args) : Sem Fin :=
 PySem.W.R.bindR (Abp fd args) fun binds =>
 PySem.W.R.bindR (Agg fd.scope fd.globals fd.closure binds (fd.qualname ++ (Str.mk #[46, 60, 108, 111, 99, 97, 108, 115, 62, 46])) (some a) fd.code none fd.builtins) fun env =>
  .load cStatics none fun o => match M3 o with
   | true => .pure (.again (match fd.body with | .stmts b => .func b env | .expr e => .expr e env))
   | false => .unsupported "a limit"
noncomputable def Mg (o : Obj) (q : Str) : Bool := match o.data with
 | .fields vs => match vs[1]? with
  | some v => match v with
   | .str s _ => PySem.W.Fast.sEq s q
   | _ => false
  | none => false
 | _ => false
section
variable (V : PV) (ih : Ih)
noncomputable def enter (hs : Nat) (c' : Code) (κ : Kn) (t₀ : Sem Fin) (c₀ : Code) (κ₀ : Kn) (a : Nat) (fd : FuncData) (args : Args) (T : BT) (m i : Nat) (l r : List Nat) (ob : List Prop) : Res :=
 let stop : Res := ⟨c₀, κ₀, t₀, T, m, i, l, r, ob⟩
 match fd.scope.isGenerator with
 | true => stop
 | false => match fd.scope.isCoroutine with
  | true => stop
  | false => match Nat.blt (V.D + Xv κ) 1000 with
   | false => stop
   | true => match fd.body with
    | .expr _ => stop
    | .stmts _ => match fd.code with
     | .ref cd => match hs % V.hb with
      | 0 => match V.kt.get cd with
       | some o => match Mg o fd.qualname with
        | true => ih (hs / V.hb) c' κ (Ni a fd args) T m i l r ob
        | false => stop
       | none => stop
      | j + 1 => match T.get j with
       | some o => match Mg o fd.qualname with
        | true => ih (hs / V.hb) c' κ (Ni a fd args) T m i (cd :: l) (Iq V j :: r) ob
        | false => stop
       | none => stop
     | _ => stop
noncomputable def Ie (hs : Nat) (κ : Kn) (c₀ : Code) (v : Value) (T : BT) (m i : Nat) (l r : List Nat) (ob : List Prop) : Res := match κ with
 | .base => ⟨c₀, .base, .pure (.done (.ret v)), T, m, i, l, r, ob⟩
 | .ret c k κ' => ih hs c κ' (k (.ok (.ret v))) T m i l r ob
noncomputable def Mx (q : Bool) (hs : Nat) (c' : Code) (κ : Kn) (t₀ : Sem Fin) (c₀ : Code) (κ₀ : Kn) (T : BT) (m i : Nat) (l r : List Nat) (ob : List Prop) : Res :=
 let stop : Res := ⟨c₀, κ₀, t₀, T, m, i, l, r, ob⟩
 match hs % V.hb with
 | 0 => match q with
  | true => ih (hs / V.hb) c' κ (den c') T m i l r ob
  | false => match Ky c' with
   | true => ih (hs / V.hb) c' κ (den c') T m i l r ob
   | false => stop
 | 1 => match c' with
  | .call f args => match f with
   | .ref a => match V.kt.get a with
    | some o => match o.data with
     | .func fd => enter V ih (hs / V.hb) c' κ t₀ c₀ κ₀ a fd args T m i l r ob
     | _ => stop
    | none => stop
   | _ => stop
  | _ => stop
 | 2 => stop
 | 3 => stop
 | d + 4 => match Nat.beq (d % 2) 1 with
  | true => match c' with
   | .call f args => match f with
    | .ref a => match T.get (d / 2) with
     | some o => match o.data with
      | .func fd => enter V ih (hs / V.hb) c' κ t₀ c₀ κ₀ a fd args T m i (a :: l) (Iq V (d / 2) :: r) ob
      | _ => stop
     | none => stop
    | _ => stop
   | _ => stop
  | false => match Nat.blt (d / 2) 64 with
   | true => match V.leaf0 (d / 2) c' (V.T₀ + i) with
    | some p => Ie ih (hs / V.hb) κ c' p.1 T m (i + p.2.1) l r (p.2.2 ++ ob)
    | none => stop
   | false => match Nat.beq (d / 2) 125 with
   | true => match V.gen (hs / V.hb % V.hb) with
    | none => stop
    | some g => match Ky c' with
     | false => stop
     | true => match Nat.blt (V.D + Xv κ) 901 with
      | false => stop
      | true => match rdQ V T g.rd with
       | none => stop
       | some rds => match wrQ V g.wr T with
        | none => stop
        | some q => match nwQ V g.nw q.1 m with
         | none => stop
         | some u => Ie ih (hs / V.hb / V.hb) κ c' g.v u.1 u.2 (i + g.di) l r (Ac V.prog V.w c' (V.T₀ + i) (V.B + m) rds q.2 g.nw g.v g.di :: ob)
   | false => match T.get (hs / V.hb % V.hb) with
    | some o => match V.leaf1 (d / 2 - 64) c' o (V.T₀ + i) with
     | some p => Ie ih (hs / V.hb / V.hb) κ c' p.2.1 T m (i + p.2.2.1) (p.1 :: l) (Iq V (hs / V.hb % V.hb) :: r) (p.2.2.2 ++ ob)
     | none => stop
    | none => stop
noncomputable def W3 (hs : Nat) (c : Code) (κ : Kn) (t : Sem Fin) (T : BT) (m i : Nat) (l r : List Nat) (ob : List Prop) : Res :=
 match t with
 | .pure fin => match fin with
  | .done f => match κ with
   | .base => ⟨c, .base, t, T, m, i, l, r, ob⟩
   | .ret c' k κ' => ih hs c' κ' (k (.ok f)) T m i l r ob
  | .again c' => Mx V ih false hs c' κ t c κ T m i l r ob
 | .raise e => match κ with
  | .base => ⟨c, .base, t, T, m, i, l, r, ob⟩
  | .ret c' k κ' => ih hs c' κ' (k (.error e)) T m i l r ob
 | .rule _ k => ih hs c κ (k ()) T m i l r ob
 | .at _ k => ih hs c κ (k ()) T m i l r ob
 | .point _ k => ih hs c κ (k ()) T m i l r ob
 | .ask k => ih hs c κ (k ⟨V.prog, V.w.params⟩) T m i l r ob
 | .load a _ k => match hs % V.hb with
  | 0 => match V.kt.get a with
   | some o => ih (hs / V.hb) c κ (k o) T m i l r ob
   | none => ⟨c, κ, t, T, m, i, l, r, ob⟩
  | j + 1 => match T.get j with
   | some o => ih (hs / V.hb) c κ (k o) T m i (a :: l) (Iq V j :: r) ob
   | none => ⟨c, κ, t, T, m, i, l, r, ob⟩
 | .loadIfAlive a k => match hs % V.hb with
  | 0 => match V.kt.get a with
   | some o => ih (hs / V.hb) c κ (k (some o)) T m i l r ob
   | none => ⟨c, κ, t, T, m, i, l, r, ob⟩
  | j + 1 => match T.get j with
   | some o => ih (hs / V.hb) c κ (k (some o)) T m i (a :: l) (Iq V j :: r) ob
   | none => ⟨c, κ, t, T, m, i, l, r, ob⟩
 | .alloc o k => match o.isFreed with
  | true => ⟨c, κ, t, T, m, i, l, r, ob⟩
  | false => match (T.ins (V.k + m) o).get (V.k + m) with
   | some _ => ih hs c κ (k (V.B + m)) (T.ins (V.k + m) o) (m + 1) i l r ob
   | none => ⟨c, κ, t, T, m, i, l, r, ob⟩
 | .update a _ f k => match hs % V.hb with
  | 0 => ⟨c, κ, t, T, m, i, l, r, ob⟩
  | j + 1 => match T.get j with
   | some o => match (f o).isFreed with
    | true => ⟨c, κ, t, T, m, i, l, r, ob⟩
    | false => ih (hs / V.hb) c κ (k ()) (T.set j f) m i (a :: l) (Iq V j :: r) ob
   | none => ⟨c, κ, t, T, m, i, l, r, ob⟩
 | .fresh k => ih hs c κ (k (V.T₀ + i)) T m (i + 1) l r ob
 | .handled own k => match own with
  | false => ih hs c κ (k none) T m i l r ob
  | true => ⟨c, κ, t, T, m, i, l, r, ob⟩
 | .call c' hd _ _ k => match hd with
  | none => Mx V ih true hs c' (.ret c k κ) t c κ T m i l r ob
  | some _ => ⟨c, κ, t, T, m, i, l, r, ob⟩
 | _ => ⟨c, κ, t, T, m, i, l, r, ob⟩
end
noncomputable def Bw (V : PV) : Nat -> Ih
 | 0 => fun _ c κ t T m i l r ob => ⟨c, κ, t, T, m, i, l, r, ob⟩
 | n + 1 => W3 V (Bw V n)
noncomputable def Bb (A₀ : Around) : Kn -> Around
 | .base => A₀
 | .ret c _ κ => (Bb A₀ κ).under c
noncomputable def Ml (prog : Program) (w : World) (A₀ : Around) (R₀ : Result -> Shared -> Prop) : Kn -> Result -> Shared -> Prop
 | .base => R₀
 | .ret c k κ => postR prog w (Bb A₀ κ) c (postC prog w (Bb A₀ κ) (Ml prog w A₀ R₀ κ)) (postE (Ml prog w A₀ R₀ κ)) k
theorem D0 {A₀ : Around} (h : A₀.handled = none) : ∀ κ, (Bb A₀ κ).handled = none
 | .base => h
 | .ret _ _ κ => D0 h κ
theorem Fc (c : Code) : c.weight <= wt c := by
 have hb : ∀ c : Code, (∀ id a, c ≠ .builtin id a) -> c.weight <= 1 := by
  intro c hc
  have h1 : c.frames <= 1 := by
   unfold Code.frames
   split <;> first | (exact absurd rfl (hc _ _)) | (split <;> lia)
  have h2 : c.isCreation = false := by
   unfold Code.isCreation
   split
   ·exact absurd rfl (hc _ _)
   ·rfl
  have h3 : c.isGuard = false := by
   unfold Code.isGuard
   split
   ·exact absurd rfl (hc _ _)
   ·rfl
  have h4 : c.isCaller = false := by
   unfold Code.isCaller
   split
   ·exact absurd rfl (hc _ _)
   ·rfl
  unfold Code.weight
  rw [h2, h3, h4]
  simp only [Bool.false_eq_true, if_false]
  lia
 have key : ∀ id a, (Code.builtin id a).weight <= wt (.builtin id a) := by
  intro id a
  have hf : (Code.builtin id a).frames <= 3 := by
   unfold Code.frames
   split <;> first | lia | (split <;> lia)
  show _ <= (match PySem.W.S.eqLit 35714603318786955769505017188 id with | true => 400 | false => 5)
  have hm : claimMargin = 300 := by decide +kernel
  cases e : PySem.W.S.eqLit 35714603318786955769505017188 id with
  | true =>
   unfold Code.weight
   simp only [hm]
   repeat' split
   all_goals lia
  | false =>
   have hc : (Code.builtin id a).isCaller = false := by
    unfold Code.isCaller
    split
    ·rename_i q
     cases q
     exfalso
     have : PySem.W.S.eqLit 35714603318786955769505017188 "claim.caller" = true := by
      unfold PySem.W.S.eqLit
      rw [<- PySem.W.S.code_S]
      decide +kernel
     rw [this] at e; cases e
    ·rfl
   unfold Code.weight
   rw [hc]
   simp only [Bool.false_eq_true, if_false]
   repeat' split
   all_goals lia
 cases c with
 | builtin id a => exact key id a
 | _ => exact hb _ (fun _ _ h => by cases h)
theorem Dq {A₀ : Around} {D : Nat} (h : A₀.depth <= D) : ∀ κ, (Bb A₀ κ).depth <= D + Xv κ
 | .base => h
 | .ret c _ κ => by
  show (Bb A₀ κ).depth + c.weight <= D + (wt c + Xv κ)
  have := Dq h κ
  have := Fc c
  lia
structure Rp (V : PV) (F : Nat -> Obj -> Prop) (T : BT) (m : Nat) (h : Heap) : Prop where
 size : h.objs.size = V.B + m
 own : ∀ j o, T.get j = some o -> j < V.k + m /\ h.get? (Iq V j) = some o
 keep : ∀ b o, F b o -> h.get? b = some o
structure LeafOk0 (V : PV) : Prop where
 ok : ∀ x c tok v di obs, V.leaf0 x c tok = some (v, di, obs) -> (∀ p ∈ obs, p) -> c.quiet = true /\
  ∀ (A : Around) (s : Shared) (R : Result -> Shared -> Prop), s.toks = tok -> R (.ok (.ret v)) { s with toks := tok + di } -> codeAny (model V.prog V.w) A c R s
structure LeafOk1 (V : PV) : Prop where
 ok : ∀ x c o tok a v di obs, V.leaf1 x c o tok = some (a, v, di, obs) -> (∀ p ∈ obs, p) -> c.quiet = true /\
  ∀ (A : Around) (s : Shared) (R : Result -> Shared -> Prop), s.toks = tok -> s.heap.get? a = some o -> R (.ok (.ret v)) { s with toks := tok + di } -> codeAny (model V.prog V.w) A c R s
structure POk (V : PV) (F : Nat -> Obj -> Prop) : Prop where
 kt : ∀ a o, V.kt.get a = some o -> F a o
 low : ∀ b o, F b o -> b < V.B
 apart : ∀ b o j, F b o -> j < V.k -> b ≠ Iq V j
 inj : ∀ i j, i < V.k -> j < V.k -> Iq V i = Iq V j -> i = j
 oldlow : ∀ j, j < V.k -> Iq V j < V.B
 leaf0 : LeafOk0 V
 leaf1 : LeafOk1 V
theorem Gn (V : PV) {j : Nat} (h : ¬ j < V.k) : Iq V j = V.B + (j - V.k) := by
 unfold Iq
 cases e : Nat.blt j V.k with
 | true => exact absurd (X.blt_true e) h
 | false => rfl
section
variable {V : PV} {F : Nat -> Obj -> Prop} (O : POk V F)
include O
theorem POk.inj' {m : Nat} {i j : Nat} (hi : i < V.k + m) (hj : j < V.k + m) (e : Iq V i = Iq V j) : i = j := by
 by_cases p : i < V.k <;> by_cases q : j < V.k
 ·exact O.inj i j p q e
 ·have := O.oldlow i p; rw [e, Gn V q] at this; lia
 ·have := O.oldlow j q; rw [<- e, Gn V p] at this; lia
 ·rw [Gn V p, Gn V q] at e; lia
theorem POk.apart' {m : Nat} {b : Nat} {o : Obj} {j : Nat} (hF : F b o) (hj : j < V.k + m) : b ≠ Iq V j := by
 by_cases q : j < V.k
 ·exact O.apart b o j hF q
 ·intro e; have := O.low b o hF; rw [e, Gn V q] at this; lia
theorem Rp.alloc {T : BT} {m : Nat} {h : Heap} (D : Rp V F T m h) {o : Obj} (hf : o.isFreed = false) (hg : ((T.ins (V.k + m) o).get (V.k + m)).isSome = true) :
  Rp V F (T.ins (V.k + m) o) (m + 1) (h.push o) := by
 refine ⟨by rw [Heap.size_push, D.size, Nat.add_assoc], fun j o' e => ?_, fun b o' e => Heap.get?_push_of_some _ (D.keep b o' e)⟩
 rw [BT.get_ins o T _ hg] at e
 by_cases hj : j = V.k + m
 ·subst hj
  rw [if_pos rfl] at e
  cases e
  refine ⟨by lia, ?_⟩
  have : Iq V (V.k + m) = h.objs.size := by rw [Gn V (by lia), D.size]; lia
  rw [this]
  exact Heap.get?_push_size _ hf
 ·rw [if_neg hj] at e
  have z := D.own j o' e
  exact ⟨by lia, Heap.get?_push_of_some _ z.2⟩
theorem Rp.update {T : BT} {m : Nat} {h : Heap} (D : Rp V F T m h) {j : Nat} {o : Obj} {f : Obj -> Obj} (e : T.get j = some o) (hf : (f o).isFreed = false) :
  h.get? (Iq V j) = some o /\ Rp V F (T.set j f) m (h.update (Iq V j) f) := by
 have z := D.own j o e
 have hs : Heap.SameBut (Iq V j) h (h.update (Iq V j) f) := Heap.SameBut.update ..
 refine ⟨z.2, by rw [hs.1, D.size], fun i o' e' => ?_, fun b o' e' => (hs.2 b (POk.apart' O e' z.1)).trans (D.keep b o' e')⟩
 rw [BT.get_set] at e'
 by_cases hi : i = j
 ·subst hi
  rw [if_pos rfl, e] at e'
  cases e'
  exact ⟨z.1, by first | exact Heap.get?_update_self f z.2 hf | exact Heap.get?_update_self _ z.2 hf⟩
 ·rw [if_neg hi] at e'
  have y := D.own i o' e'
  exact ⟨y.1, (hs.2 _ (fun q => hi (POk.inj' O y.1 z.1 q))).trans y.2⟩
end
section
variable (V : PV) (F : Nat -> Obj -> Prop) (A₀ : Around) (R₀ : Result -> Shared -> Prop) (d : Drawn) (os : OsState)
noncomputable def Fn (c : Code) (κ : Kn) (t : Sem Fin) (s : Shared) : Prop :=
 wpOwn (model V.prog V.w) (Bb A₀ κ) c t (postC V.prog V.w (Bb A₀ κ) (Ml V.prog V.w A₀ R₀ κ)) (postE (Ml V.prog V.w A₀ R₀ κ)) s
noncomputable def Gd (c : Code) (κ : Kn) (t : Sem Fin) (T : BT) (m i : Nat) (l r : List Nat) (ob : List Prop) : Prop :=
 l = r /\ (∀ p ∈ ob, p) /\ ∀ h, Rp V F T m h -> Fn V A₀ R₀ c κ t ⟨h, #[], d, V.T₀ + i, os⟩
noncomputable def Je (x : Res) : Prop := Gd V F A₀ R₀ d os x.c x.κ x.t x.T x.m x.i x.l x.r x.ob
end
theorem Ik : ∀ {l : List DictEntry}, Ju l = true -> ∀ e ∈ l, ∃ s t, e.key = .str s t /\ s ≠ Str.ofString "sys.recursionlimit"
 | [], _, _, h => by cases h
 | e :: l, h, x, hx => by
  unfold Ju at h
  split at h
  ·rename_i s t hk
   split at h
   ·cases h
   ·rename_i hs
    rcases List.mem_cons.mp hx with rfl | hx
    ·refine ⟨s, t, hk, fun q => ?_⟩
     have : PySem.W.Fast.sEq s ⟨#[115, 121, 115, 46, 114, 101, 99, 117, 114, 115, 105, 111, 110, 108, 105, 109, 105, 116]⟩ = true := by
      rw [PySem.W.Fast.sEq_iff, q]; decide +kernel
     rw [this] at hs; cases hs
    ·exact Ik h x hx
  ·cases h
theorem Ps {h : Heap} {o : Obj} (ho : h.get? cStatics = some o) (e : M3 o = true) : h.NoLimit := by
 unfold M3 at e
 split at e
 ·rename_i es ep hd
  have sp := Ik e
  refine ⟨fun name => nsFind es name, ⟨o, es, ep, ho, hd, ?_, fun _ => rfl⟩, ?_⟩
  ·intro x hx
   obtain ⟨s, t, hk, _⟩ := sp x (by simpa using hx)
   first | exact ⟨s, t, hk⟩ | (rw [hk]; trivial) | simp [hk]
  ·show nsFind es (Str.ofString "sys.recursionlimit") = none
   unfold nsFind findBy
   have : es.find? (fun e => e.key.isStr (Str.ofString "sys.recursionlimit")) = none := by
    rw [Array.find?_eq_none]
    intro x hx
    obtain ⟨s, t, hk, hn⟩ := sp x (by simpa using hx)
    rw [hk]
    simpa [Value.isStr] using hn
   rw [this]; rfl
 ·cases e
theorem Jj {V : PV} {A : Around} {R : Result -> Shared -> Prop} {s : Shared} {c : Code}
  (h : wpOwn (model V.prog V.w) A c (den c) (postC V.prog V.w A R) (postE R) s) : codeAny (model V.prog V.w) A c R s :=
 y_code V.prog V.w A R s c (by rw [Aei]; exact h)
theorem V0 {M : Model} {Γ : Ctx} {cd : Addr} {oc : Obj} {vs : Array Value} {v : Value} {i : Nat} {Q : Value -> Pos -> Shared -> Prop} {E : Value -> Pos -> Shared -> Prop} {p : Pos} {s : Shared}
  (hoc : s.heap.get? cd = some oc) (hdc : oc.data = .fields vs) (hv : vs[i]? = some v) (hQ : Q v p s) : Sem.wp M Γ (field (.ref cd) i) Q E p s := by
 simp only [field, Sem.wp_bind', fieldsOf]
 refine ⟨oc, hoc, ?_⟩
 show Sem.wp M Γ (match oc.data with | .fields vs => pure vs | _ => unsupported "internal:no-fields") _ E p s
 rw [hdc]
 show Sem.wp M Γ (match vs[i]? with | some x => pure x | none => _) Q E p s
 rw [hv]
 exact hQ
theorem L9 {α : Type} {M : Model} {Γ : Ctx} {a : α} {Q : α -> Pos -> Shared -> Prop} {E : Value -> Pos -> Shared -> Prop} {p : Pos} {s : Shared} : Sem.wp M Γ (Sem.pure a) Q E p s = Q a p s := rfl
theorem Kt {prog : Program} {w : World} {A : Around} {R : Result -> Shared -> Prop} {s : Shared} {a : Addr} {args : Args} {o oc : Obj} {fd : FuncData} {body : List Stmt} {cd : Addr} (hroom : A.depth < recursionLimit)
  (ho : s.heap.get? a = some o) (hd : o.data = .func fd) (hco : fd.scope.isCoroutine = false) (hgen : fd.scope.isGenerator = false) (hbody : fd.body = .stmts body)
  (hc : fd.code = .ref cd) (hoc : s.heap.get? cd = some oc) (hq : Mg oc fd.qualname = true)
  (h : wpOwn (model prog w) A (.call (.ref a) args) (Ni a fd args) (postC prog w A R) (postE R) s) : codeAny (model prog w) A (.call (.ref a) args) R s := by
 refine y_code prog w A R s _ ?_
 show wpOwn (model prog w) A (.call (.ref a) args) (callAny (.ref a) args) (postC prog w A R) (postE R) s
 intro Γ p hcΓ hΓ
 have h0 := h Γ p hcΓ hΓ
 obtain ⟨vs, t, hdc, hvs⟩ : ∃ vs t, oc.data = .fields vs /\ vs[1]? = some (.str fd.qualname t) := by
  unfold Mg at hq
  split at hq
  ·rename_i vs hvs
   split at hq
   ·rename_i v hv
    split at hq
    ·rename_i s' t'
     exact ⟨vs, t', hvs, by rw [hv, PySem.W.Fast.sEq_iff.mp hq]⟩
    ·cases hq
   ·cases hq
  ·cases hq
 have h1 : Sem.wp (model prog w) Γ (bindArgs fd args >>= fun binds => newFunctionEnv fd.scope fd.globals fd.closure binds (fd.qualname ++ ".<locals>.") (some a) fd.code none fd.builtins >>= fun env =>
   (.load cStatics none fun o => match M3 o with
    | true => .pure (.again (match fd.body with | .stmts b => .func b env | .expr e => .expr e env))
    | false => .unsupported "a limit" : Sem Fin)) (fun a _ s' => postC prog w A R a s') (fun e _ s' => postE R e s') p s := by
  have e1 : ((Str.mk #[46, 60, 108, 111, 99, 97, 108, 115, 62, 46]) : Str) = Str.ofString ".<locals>." := by decide +kernel
  unfold Ni at h0
  rw [<- Vl, <- Yy, e1, <- PySem.W.R.bindR_eq] at h0
  exact h0
 simp only [callAny, Sem.wp_bind']
 refine ⟨o, ho, ?_⟩
 simp only [L9, hd, callFunction, hco, hgen, hc, Sem.wp_bind']
 refine V0 hoc hdc hvs ?_
 simp only [Sem.wp_bind', hc] at h1
 simp only [Sem.wp_bind']
 show Sem.wp (model prog w) Γ (pure fd.qualname : Sem Str) _ _ p s
 simp only [show (pure fd.qualname : Sem Str) = Sem.pure fd.qualname from rfl, L9, Sem.wp_bind']
 refine Sem.wp_mono _ _ _ (fun binds p1 s1 h1 => ?_) (fun _ _ _ x => x) _ _ h1
 refine Sem.wp_mono _ _ _ (fun env p2 s2 h2 => ?_) (fun _ _ _ x => x) _ _ h1
 obtain ⟨ol, hol, h3⟩ := h2
 have h3 : Sem.wp (model prog w) Γ (match M3 ol with
  | true => .pure (.again (match fd.body with | .stmts b => .func b env | .expr e => .expr e env))
  | false => .unsupported "a limit" : Sem Fin) (fun a _ s' => postC prog w A R a s') (fun e _ s' => postE R e s') p2 s2 := h3
 cases e : M3 ol with
 | false => rw [e] at h3; exact h3.elim
 | true =>
  rw [e] at h3
  have hw := wpAny_enterFrame (M := model prog w) (A := A.under (.call (.ref a) args)) (E := fun e s' => postE R e s') (Q := fun _ s' => s' = s2) (Ps hol e) (by
   have : (A.under (.call (.ref a) args)).depth = A.depth := by show A.depth + 0 = A.depth; lia
   rw [this]; exact hroom) rfl Γ p2 (hcΓ ▸ hΓ.in)
  refine Sem.wp_mono _ _ _ (fun _ p3 s3 h4 => ?_) (fun _ _ _ x => x) _ _ hw
  subst h4
  rw [hbody] at h3 ⊢
  exact h3
section
variable {V : PV} {F : Nat -> Obj -> Prop} {A₀ : Around} {R₀ : Result -> Shared -> Prop} {d : Drawn} {os : OsState}
 (O : POk V F) (hh : A₀.handled = none) (hD : A₀.depth <= V.D) {ih : Ih}
 (IH : ∀ hs c κ t T m i l r ob, Je V F A₀ R₀ d os (ih hs c κ t T m i l r ob) -> Gd V F A₀ R₀ d os c κ t T m i l r ob)
theorem Gd.map {c c' : Code} {κ κ' : Kn} {t t' : Sem Fin} {T T' : BT} {m m' i i' : Nat} {l r : List Nat} {ob : List Prop}
  (H : Gd V F A₀ R₀ d os c' κ' t' T' m' i' l r ob)
  (k : (∀ h, Rp V F T' m' h -> Fn V A₀ R₀ c' κ' t' ⟨h, #[], d, V.T₀ + i', os⟩) -> ∀ h, Rp V F T m h -> Fn V A₀ R₀ c κ t ⟨h, #[], d, V.T₀ + i, os⟩) :
  Gd V F A₀ R₀ d os c κ t T m i l r ob := ⟨H.1, H.2.1, k H.2.2⟩
theorem Gd.map1 {c c' : Code} {κ κ' : Kn} {t t' : Sem Fin} {T T' : BT} {m m' i i' : Nat} {l r : List Nat} {ob : List Prop} {a b : Nat}
  (H : Gd V F A₀ R₀ d os c' κ' t' T' m' i' (a :: l) (b :: r) ob)
  (k : a = b -> (∀ h, Rp V F T' m' h -> Fn V A₀ R₀ c' κ' t' ⟨h, #[], d, V.T₀ + i', os⟩) -> ∀ h, Rp V F T m h -> Fn V A₀ R₀ c κ t ⟨h, #[], d, V.T₀ + i, os⟩) :
  Gd V F A₀ R₀ d os c κ t T m i l r ob := ⟨(List.cons.inj H.1).2, H.2.1, k (List.cons.inj H.1).1 H.2.2⟩
theorem Gd.mapO {c c' : Code} {κ κ' : Kn} {t t' : Sem Fin} {T T' : BT} {m m' i i' : Nat} {l r : List Nat} {ob obs : List Prop}
  (H : Gd V F A₀ R₀ d os c' κ' t' T' m' i' l r (obs ++ ob))
  (k : (∀ p ∈ obs, p) -> (∀ h, Rp V F T' m' h -> Fn V A₀ R₀ c' κ' t' ⟨h, #[], d, V.T₀ + i', os⟩) -> ∀ h, Rp V F T m h -> Fn V A₀ R₀ c κ t ⟨h, #[], d, V.T₀ + i, os⟩) :
  Gd V F A₀ R₀ d os c κ t T m i l r ob := ⟨H.1, fun p hp => H.2.1 p (List.mem_append_right _ hp), k (fun p hp => H.2.1 p (List.mem_append_left _ hp)) H.2.2⟩
include O hD IH in
theorem Jk {hs : Nat} {c' c₀ : Code} {κ κ₀ : Kn} {t₀ : Sem Fin} {a : Nat} {o : Obj} {fd : FuncData} {args : Args} {T : BT} {m i : Nat} {l r l₀ r₀ : List Nat} {ob : List Prop}
  (hc' : c' = .call (.ref a) args) (hod : o.data = .func fd)
  (hpre : l = r -> (l₀ = r₀ /\ ∀ h, Rp V F T m h -> h.get? a = some o))
  (hrun : ∀ s, codeAny (model V.prog V.w) (Bb A₀ κ) c' (Ml V.prog V.w A₀ R₀ κ) s -> Fn V A₀ R₀ c₀ κ₀ t₀ s)
  (H : Je V F A₀ R₀ d os (enter V ih hs c' κ t₀ c₀ κ₀ a fd args T m i l r ob)) : Gd V F A₀ R₀ d os c₀ κ₀ t₀ T m i l₀ r₀ ob := by
 have stopG : Je V F A₀ R₀ d os ⟨c₀, κ₀, t₀, T, m, i, l, r, ob⟩ -> Gd V F A₀ R₀ d os c₀ κ₀ t₀ T m i l₀ r₀ ob := fun h => ⟨(hpre h.1).1, h.2.1, h.2.2⟩
 unfold enter at H
 dsimp only at H
 split at H
 ·exact stopG H
 rename_i hgen
 split at H
 ·exact stopG H
 rename_i hco
 split at H
 ·exact stopG H
 rename_i hdep
 split at H
 ·exact stopG H
 rename_i body hbody
 have hroom : (Bb A₀ κ).depth < recursionLimit := by
  have h1 := Dq hD κ
  have h2 := X.blt_true hdep
  have h3 : recursionLimit = 1000 := rfl
  lia
 split at H
 ·rename_i cd hcd
  split at H
  ·split at H
   ·rename_i oc hoc
    split at H
    ·rename_i hq
     have z := IH _ _ _ _ _ _ _ _ _ _ H
     refine ⟨(hpre z.1).1, z.2.1, fun h D => hrun _ ?_⟩
     subst hc'
     exact Kt hroom ((hpre z.1).2 h D) hod hco hgen hbody hcd (D.keep _ _ (O.kt _ _ hoc)) hq (z.2.2 h D)
    ·exact stopG H
   ·exact stopG H
  ·split at H
   ·rename_i oc hoc
    split at H
    ·rename_i hq
     have z := IH _ _ _ _ _ _ _ _ _ _ H
     have zl := List.cons.inj z.1
     refine ⟨(hpre zl.2).1, z.2.1, fun h D => hrun _ ?_⟩
     subst hc'
     exact Kt hroom ((hpre zl.2).2 h D) hod hco hgen hbody hcd (by rw [zl.1]; exact (D.own _ _ hoc).2) hq (z.2.2 h D)
    ·exact stopG H
   ·exact stopG H
 ·exact stopG H
include IH in
theorem F3 {hs : Nat} {c' : Code} {κ : Kn} {v : Value} {T : BT} {m i : Nat} {l r : List Nat} {ob : List Prop}
  (H : Je V F A₀ R₀ d os (Ie ih hs κ c' v T m i l r ob)) :
  l = r /\ (∀ p ∈ ob, p) /\ ∀ h, Rp V F T m h -> ∀ Γ : Ctx, Γ.code = c' -> Γ.Below (Bb A₀ κ) -> Ml V.prog V.w A₀ R₀ κ (.ok (.ret v)) ⟨h, #[], d, V.T₀ + i, os⟩ := by
 unfold Ie at H
 cases κ with
 | base => exact ⟨H.1, H.2.1, fun h D Γ hc hB => H.2.2 h D Γ default hc hB⟩
 | ret c k κ =>
  have z := IH _ _ _ _ _ _ _ _ _ _ H
  exact ⟨z.1, z.2.1, fun h D Γ hc hB => z.2.2 h D⟩
include O in
theorem Uz {T : BT} {m : Nat} {h : Heap} (D : Rp V F T m h) : ∀ (l : List Nat) (r : List (Nat × Obj)), rdQ V T l = some r -> Rc h r
 | [], r, e => by cases e; trivial
 | j :: l, r, e => by
  unfold rdQ at e
  split at e
  ·cases e
  ·rename_i o ho
   split at e
   ·cases e
   ·rename_i r' hr
    cases e
    exact ⟨(D.own _ _ ho).2, Uz D l r' hr⟩
include O in
theorem Vq {m : Nat} : ∀ (l : List (Nat × Obj)) (T : BT) (h : Heap) (q : BT × List (Nat × Obj)), Rp V F T m h -> wrQ V l T = some q -> Rp V F q.1 m (Mi q.2 h)
 | [], T, h, q, D, e => by cases e; exact D
 | p :: l, T, h, q, D, e => by
  unfold wrQ at e
  split at e
  ·cases e
  ·rename_i o ho
   split at e
   ·cases e
   ·rename_i hf
    split at e
    ·cases e
    ·rename_i q' hq
     cases e
     exact Vq l _ _ q' (Rp.update O D ho (f := fun _ => p.2) hf).2 hq
include O in
theorem Ux : ∀ (l : List Obj) (T : BT) (m : Nat) (h : Heap) (q : BT × Nat), Rp V F T m h -> nwQ V l T m = some q -> Rp V F q.1 q.2 (Ke l h)
 | [], T, m, h, q, D, e => by cases e; exact D
 | o :: l, T, m, h, q, D, e => by
  unfold nwQ at e
  split at e
  ·cases e
  ·rename_i hf
   split at e
   ·cases e
   ·rename_i o' ho
    exact Ux l _ _ _ q (Rp.alloc O D hf (by rw [ho]; rfl)) e
include O hh hD IH in
theorem I7 {q : Bool} {hs : Nat} {c' c₀ : Code} {κ κ₀ : Kn} {t₀ : Sem Fin} {T : BT} {m i : Nat} {l r : List Nat} {ob : List Prop}
  (hrun : (q = true \/ c'.quiet = true) -> ∀ s, codeAny (model V.prog V.w) (Bb A₀ κ) c' (Ml V.prog V.w A₀ R₀ κ) s -> Fn V A₀ R₀ c₀ κ₀ t₀ s)
  (H : Je V F A₀ R₀ d os (Mx V ih q hs c' κ t₀ c₀ κ₀ T m i l r ob)) : Gd V F A₀ R₀ d os c₀ κ₀ t₀ T m i l r ob := by
 have hqf : ∀ f args, (Code.call f args).quiet = true := fun f args => rfl
 unfold Mx at H
 dsimp only at H
 split at H
 ·split at H
  ·have z := IH _ _ _ _ _ _ _ _ _ _ H
   exact ⟨z.1, z.2.1, fun h D => hrun (.inl rfl) _ (Jj (z.2.2 h D))⟩
  ·split at H
   ·rename_i hq
    have z := IH _ _ _ _ _ _ _ _ _ _ H
    exact ⟨z.1, z.2.1, fun h D => hrun (.inr (by rw [Gl]; exact hq)) _ (Jj (z.2.2 h D))⟩
   ·exact H
 ·split at H
  ·split at H
   ·split at H
    ·rename_i o ho
     split at H
     ·rename_i fd hfd
      exact Jk O hD IH rfl hfd (fun e => ⟨e, fun h D => D.keep _ _ (O.kt _ _ ho)⟩) (hrun (.inr (hqf _ _))) H
     ·exact H
    ·exact H
   ·exact H
  ·exact H
 ·exact H
 ·exact H
 ·split at H
  ·split at H
   ·split at H
    ·split at H
     ·rename_i o ho
      split at H
      ·rename_i fd hfd
       exact Jk O hD IH rfl hfd (fun e => ⟨(List.cons.inj e).2, fun h D => by rw [(List.cons.inj e).1]; exact (D.own _ _ ho).2⟩) (hrun (.inr (hqf _ _))) H
      ·exact H
     ·exact H
    ·exact H
   ·exact H
  ·split at H
   ·split at H
    ·rename_i p hp
     obtain ⟨v, di, obs⟩ := p
     have z := F3 IH H
     have ho : ∀ p ∈ obs, p := fun p hp => z.2.1 p (List.mem_append_left _ hp)
     have lf := O.leaf0.ok _ _ _ _ _ _ hp ho
     refine ⟨z.1, fun p hp => z.2.1 p (List.mem_append_right _ hp), fun h D => hrun (.inr lf.1) _ ?_⟩
     intro Γ p hc hB
     refine lf.2 (Bb A₀ κ) ⟨h, #[], d, V.T₀ + i, os⟩ _ rfl ?_ Γ p hc hB
     have y := z.2.2 h D Γ hc hB
     rw [<- Nat.add_assoc] at y
     exact y
    ·exact H
   ·split at H
    ·split at H
     ·exact H
     ·rename_i g hg
      split at H
      ·exact H
      ·rename_i hq
       split at H
       ·exact H
       ·rename_i hdep
        split at H
        ·exact H
        ·rename_i rds hrd
         split at H
         ·exact H
         ·rename_i q hwr
          split at H
          ·exact H
          ·rename_i u hnw
           have z := F3 IH H
           have ho := z.2.1 _ (.head _)
           have hd := X.blt_true hdep
           have hd2 := Dq hD κ
           refine ⟨z.1, fun p hp => z.2.1 p (.tail _ hp), fun h D => hrun (.inr (by rw [Gl]; exact hq)) _ ?_⟩
           intro Γ p hc hB
           refine ho (Bb A₀ κ) ⟨h, #[], d, V.T₀ + i, os⟩ _ (D0 hh κ) (by lia) rfl rfl D.size (Uz O D _ _ hrd) ?_ Γ p hc hB
           have y := z.2.2 _ (Ux O _ _ _ _ u (Vq O _ _ _ q D hwr) hnw) Γ hc hB
           rw [<- Nat.add_assoc] at y
           exact y
    ·split at H
     ·rename_i o ho
      split at H
      ·rename_i p hp
       obtain ⟨a, v, di, obs⟩ := p
       have z := F3 IH H
       have hobs : ∀ p ∈ obs, p := fun p hp => z.2.1 p (List.mem_append_left _ hp)
       have lf := O.leaf1.ok _ _ _ _ _ _ _ _ hp hobs
       have zl := List.cons.inj z.1
       refine ⟨zl.2, fun p hp => z.2.1 p (List.mem_append_right _ hp), fun h D => hrun (.inr lf.1) _ ?_⟩
       intro Γ p hc hB
       refine lf.2 (Bb A₀ κ) ⟨h, #[], d, V.T₀ + i, os⟩ _ rfl (by have y := (D.own _ _ ho).2; rw [<- zl.1] at y; exact y) ?_ Γ p hc hB
       have y := z.2.2 h D Γ hc hB
       rw [<- Nat.add_assoc] at y
       exact y
      ·exact H
     ·exact H
end
section
variable {V : PV} {F : Nat -> Obj -> Prop} {A₀ : Around} {R₀ : Result -> Shared -> Prop} {d : Drawn} {os : OsState}
 (O : POk V F) (hh : A₀.handled = none) (hD : A₀.depth <= V.D) {ih : Ih}
 (IH : ∀ hs c κ t T m i l r ob, Je V F A₀ R₀ d os (ih hs c κ t T m i l r ob) -> Gd V F A₀ R₀ d os c κ t T m i l r ob)
include O hh hD IH
theorem Oq (hs : Nat) (c : Code) (κ : Kn) (t : Sem Fin) (T : BT) (m i : Nat) (l r : List Nat) (ob : List Prop)
  (H : Je V F A₀ R₀ d os (W3 V ih hs c κ t T m i l r ob)) : Gd V F A₀ R₀ d os c κ t T m i l r ob := by
 unfold W3 at H
 split at H
 ·
  split at H
  ·split at H
   ·exact H
   ·exact (IH _ _ _ _ _ _ _ _ _ _ H).map fun k h D => y_pure _ _ _ _ _ _ _ _ _ (y_done _ _ _ _ _ _ (k h D))
  ·exact I7 O hh hD IH (fun hq s hc => by
    rcases hq with hq | hq
    ·cases hq
    ·exact y_pure _ _ _ _ _ _ _ _ _ (y_again _ _ _ _ _ _ hq hc)) H
 ·split at H
  ·exact H
  ·exact (IH _ _ _ _ _ _ _ _ _ _ H).map fun k h D => y_raise _ _ _ _ _ _ _ _ _ (y_err _ _ _ (k h D))
 ·exact (IH _ _ _ _ _ _ _ _ _ _ H).map fun k h D => y_skim _ _ _ _ _ _ _ _ _ 1 (k h D)
 ·exact (IH _ _ _ _ _ _ _ _ _ _ H).map fun k h D => y_skim _ _ _ _ _ _ _ _ _ 1 (k h D)
 ·exact (IH _ _ _ _ _ _ _ _ _ _ H).map fun k h D => y_skim _ _ _ _ _ _ _ _ _ 1 (k h D)
 ·exact (IH _ _ _ _ _ _ _ _ _ _ H).map fun k h D => y_skim _ _ _ _ _ _ _ _ _ 1 (k h D)
 ·
  try dsimp only at H
  split at H
  ·split at H
   ·rename_i o ho
    exact (IH _ _ _ _ _ _ _ _ _ _ H).map fun k h D => y_load _ _ _ _ _ _ _ _ _ _ _ _ _ _ _ _ (D.keep _ _ (O.kt _ _ ho)) (k h D)
   ·exact H
  ·split at H
   ·rename_i o ho
    exact (IH _ _ _ _ _ _ _ _ _ _ H).map1 fun e k h D => y_load _ _ _ _ _ _ _ _ _ _ _ _ _ _ _ _ (by rw [e]; exact (D.own _ _ ho).2) (k h D)
   ·exact H
 ·
  try dsimp only at H
  split at H
  ·split at H
   ·rename_i o ho
    exact (IH _ _ _ _ _ _ _ _ _ _ H).map fun k h D => y_alive _ _ _ _ _ _ _ _ _ _ _ _ _ _ _ (D.keep _ _ (O.kt _ _ ho)) (k h D)
   ·exact H
  ·split at H
   ·rename_i o ho
    exact (IH _ _ _ _ _ _ _ _ _ _ H).map1 fun e k h D => y_alive _ _ _ _ _ _ _ _ _ _ _ _ _ _ _ (by rw [e]; exact (D.own _ _ ho).2) (k h D)
   ·exact H
 ·
  try dsimp only at H
  split at H
  ·exact H
  ·rename_i hf
   split at H
   ·rename_i o' ho'
    refine (IH _ _ _ _ _ _ _ _ _ _ H).map fun k h D => ?_
    have D' := Rp.alloc O D hf (by rw [ho']; rfl)
    have ea : h.objs.size = V.B + m := D.size
    exact wpOwn_bind (m := PySem.alloc _) (f := _) (wpOwn_of_wpAny (wpAny_alloc (by rw [ea]; exact k _ D')))
   ·exact H
 ·
  try dsimp only at H
  split at H
  ·exact H
  ·split at H
   ·rename_i o ho
    split at H
    ·exact H
    ·rename_i hf
     refine (IH _ _ _ _ _ _ _ _ _ _ H).map1 fun e k h D => ?_
     obtain ⟨h1, D'⟩ := Rp.update O D ho hf
     rw [<- e] at h1 D'
     exact wpOwn_bind (m := updatePart _ _ _) (f := _) (wpOwn_of_wpAny (wpAny_updatePart h1 (k _ D')))
   ·exact H
 ·exact (IH _ _ _ _ _ _ _ _ _ _ H).map fun k h D => y_fresh _ _ _ _ _ _ _ _ _ _ _ _ _ (k h D)
 ·
  try dsimp only at H
  split at H
  ·refine (IH _ _ _ _ _ _ _ _ _ _ H).map fun k h D => y_handled _ _ _ _ _ _ _ _ _ ?_
   rw [D0 hh κ]
   exact k h D
  ·exact H
 ·
  try dsimp only at H
  split at H
  ·rename_i c' _ _ k _
   refine I7 O hh hD IH (κ := .ret c k κ) (c' := c') (fun hq s hc => ?_) H
   have e : (((Bb A₀ κ).under c).mark none) = Bb A₀ (.ret c k κ) := rfl
   exact y_call _ _ _ _ _ _ _ _ _ _ _ _ _ (fun e => by cases e) (by rw [e]; exact hc)
  ·exact H
 ·exact H
omit IH in
theorem Kf : ∀ (n : Nat) (hs : Nat) (c : Code) (κ : Kn) (t : Sem Fin) (T : BT) (m i : Nat) (l r : List Nat) (ob : List Prop),
  Je V F A₀ R₀ d os (Bw V n hs c κ t T m i l r ob) -> Gd V F A₀ R₀ d os c κ t T m i l r ob
 | 0 => fun _ _ _ _ _ _ _ _ _ _ H => H
 | n + 1 => Oq O hh hD (Kf n)
end
noncomputable def Cj (s o : Str) : Bool := !(Builtin.Str.occurrences s o 0 s.length 1).isEmpty
noncomputable def Bo (s o : Str) : Bool := s.cps.toList == o.cps.toList
noncomputable def Pc (s o : Str) : Bool := s.cps.toList != o.cps.toList
theorem bi {prog : Program} {w : World} {A : Around} {R : Result -> Shared -> Prop} {s : Shared} {id : String} {args : Args} {b : Builtin} {v : Value} (hb : entryFor table id = some b) (ht : b args = Sem.pure (.done (.ret v)))
  (h : R (.ok (.ret v)) s) : codeAny (model prog w) A (.builtin id args) R s :=
 codeAny_builtin hb (by rw [ht]; exact wpAny_pure h)
noncomputable def U8 (x : Nat) (a b : Value) (tok : Nat) : Option (Nat × Value × Nat × List Prop) := match a with
 | .str s _ => match b with
  | .str o u => match x with
   | 0 => some (455126313168696234964340, .bool false, 0, [Bo s o = false])
   | 1 => some (455126313168696234964340, .bool true, 0, [Bo s o = true])
   | 2 => some (128106709680535770272165659069392319860, .bool false, 0, [Cj s o = false])
   | 3 => some (128106709680535770272165659069392319860, .bool true, 0, [Cj s o = true])
   | 4 => some (116512096292018843154609524, .str o u, 0, [s.length = 0])
   | 5 => some (116512096292018843154609524, .str (s ++ o) tok, 1, [s.length ≠ 0, o.length ≠ 0, (s ++ o).length <= sizeLine])
   | 12 => some (455125451010842570225012, .bool false, 0, [Pc s o = false])
   | 13 => some (455125451010842570225012, .bool true, 0, [Pc s o = true])
   | _ => none
  | _ => none
 | .int i _ => match b with
  | .int j _ => match x with
   | 6 => some (455125449040517733379946, .bool false, 0, [¬ i >= j])
   | 7 => some (455125449040517733379946, .bool true, 0, [i >= j])
   | 8 => some (455126531311803185852266, .bool false, 0, [¬ i < j])
   | 9 => some (455126531311803185852266, .bool true, 0, [i < j])
   | 10 => some (455126529904428302298986, .bool false, 0, [¬ i > j])
   | 11 => some (455126529904428302298986, .bool true, 0, [i > j])
   | _ => none
  | _ => none
 | _ => none
inductive Gv where
 | s (x : Str)
 | g (v : Value) (di : Nat)
 | u (g : Gen)
noncomputable def Qv (prog : Program) (w : World) (c : Code) (tok : Nat) (v : Value) (di : Nat) : Prop :=
 ∀ (A : Around) (s : Shared) (R : Result -> Shared -> Prop), s.toks = tok -> R (.ok (.ret v)) { s with toks := tok + di } -> codeAny (model prog w) A c R s
noncomputable def Qn (prog : Program) (w : World) (c : Code) (tok : Nat) (a : Nat) (o : Obj) (v : Value) (di : Nat) : Prop :=
 ∀ (A : Around) (s : Shared) (R : Result -> Shared -> Prop), s.toks = tok -> s.heap.get? a = some o -> R (.ok (.ret v)) { s with toks := tok + di } -> codeAny (model prog w) A c R s
noncomputable def Vs : List Gv -> Nat -> Gv
 | [], _ => .s ⟨#[]⟩
 | a :: l, j => match j with
  | 0 => a
  | j + 1 => Vs l j
noncomputable def Aba (cs : List Gv) (y : Nat) : Option Gen := match Vs cs y with
 | .u g => some g
 | .s _ => none
 | .g _ _ => none
noncomputable def Tx (prog : Program) (w : World) (cs : List Gv) (y : Nat) (c : Code) (tok : Nat) : Option (Value × Nat × List Prop) := match Ky c with
 | false => none
 | true => match Vs cs y with
  | .g v di => some (v, di, [Qv prog w c tok v di])
  | .s _ => none
  | .u _ => none
noncomputable def Ub : List Value -> Nat
 | [] => 0
 | v :: l => match v with
  | .ref a => a
  | _ => Ub l
noncomputable def Ai7 : Code -> Nat
 | .builtin _ args => Ub args.pos
 | .call f args => Ub (f :: args.pos)
 | _ => 0
noncomputable def Wb (prog : Program) (w : World) (cs : List Gv) (y : Nat) (c : Code) (o : Obj) (tok : Nat) : Option (Nat × Value × Nat × List Prop) := match Ky c with
 | false => none
 | true => match Vs cs y with
  | .g v di => some (Ai7 c, v, di, [Qn prog w c tok (Ai7 c) o v di])
  | .s _ => none
  | .u _ => none
noncomputable def two (c : Code) : Option (String × Value × Value) := match c with
 | .builtin id args => match args with
  | ⟨pos, kw⟩ => match kw with
   | _ :: _ => none
   | [] => match pos with
    | [] => none
    | a :: pos => match pos with
     | [] => none
     | b :: pos => match pos with
      | _ :: _ => none
      | [] => some (id, a, b)
 | _ => none
theorem W5 {c : Code} {id : String} {a b : Value} (e : two c = some (id, a, b)) : c = .builtin id ⟨[a, b], []⟩ := by
 unfold two at e
 split at e
 ·split at e
  split at e
  ·cases e
  ·split at e
   ·cases e
   ·split at e
    ·cases e
    ·split at e <;> cases e
     rfl
 ·cases e
noncomputable def Q6 (x : Nat) (c : Code) (tok : Nat) : Option (Value × Nat × List Prop) := match two c with
 | none => none
 | some q => match U8 x q.2.1 q.2.2 tok with
  | none => none
  | some p => match PySem.W.S.eqLit p.1 q.1 with
   | true => some p.2
   | false => none
noncomputable def R4 (prog : Program) (w : World) (cs : List Gv) (x : Nat) (c : Code) (tok : Nat) : Option (Value × Nat × List Prop) := match Nat.blt x 24 with
 | true => Q6 x c tok
 | false => Tx prog w cs (x - 24) c tok
theorem Ac4 (s o : Str) (t u : Nat) (h : s.length = 0) : Builtin.«str.__add__» ⟨[.str s t, .str o u], []⟩ = Sem.rule "str.__add__.left-empty" fun _ => Sem.pure (.done (.ret (.str o u))) := by
 have e : Builtin.«str.__add__» ⟨[.str s t, .str o u], []⟩ = (if (true && s.length == 0) = true then (do rule "str.__add__.left-empty"; ret (<- Builtin.Str.strUnchanged (.str o u) o)) else
  if (true && o.length == 0) = true then (do rule "str.__add__.right-empty"; ret (<- Builtin.Str.strUnchanged (.str s t) s)) else retStr (s ++ o)) := rfl
 rw [e, if_pos (by simp [h])]
 rfl
theorem Afo (s o : Str) (t u : Nat) (h : s.length ≠ 0) (h' : o.length ≠ 0) (h'' : (s ++ o).length <= sizeLine) : Builtin.«str.__add__» ⟨[.str s t, .str o u], []⟩ = Sem.fresh fun k => Sem.pure (.done (.ret (.str (s ++ o) k))) := by
 have e : Builtin.«str.__add__» ⟨[.str s t, .str o u], []⟩ = (if (true && s.length == 0) = true then (do rule "str.__add__.left-empty"; ret (<- Builtin.Str.strUnchanged (.str o u) o)) else
  if (true && o.length == 0) = true then (do rule "str.__add__.right-empty"; ret (<- Builtin.Str.strUnchanged (.str s t) s)) else retStr (s ++ o)) := rfl
 rw [e, if_neg (by simp [h]), if_neg (by simp [h'])]
 unfold retStr mkStr
 rw [if_neg (by lia)]
 rfl
noncomputable abbrev Aj7 (prog : Program) (w : World) (a b : Value) (tok n : Nat) (v : Value) (di : Nat) : Prop :=
 ∃ id, PySem.code id = n /\ id.startsWith "lifetime." = false /\ ∀ (A : Around) (s : Shared) (R : Result -> Shared -> Prop), s.toks = tok -> R (.ok (.ret v)) { s with toks := tok + di } -> codeAny (model prog w) A (.builtin id ⟨[a, b], []⟩) R s
theorem U2 (prog : Program) (w : World) (x : Nat) (a b : Value) (tok n : Nat) (v : Value) (di : Nat) (obs : List Prop) (h : U8 x a b tok = some (n, v, di, obs)) (ho : ∀ p ∈ obs, p) : Aj7 prog w a b tok n v di := by
 have same : ∀ {s : Shared} {R : Result -> Shared -> Prop} {r : Result}, s.toks = tok -> R r { s with toks := tok + 0 } -> R r s := by
  intro s R r e h
  subst e
  exact h
 unfold U8 at h
 split at h
 ·split at h
  ·rename_i s t _ o u
   split at h <;> cases h
   ·refine ⟨"str.__eq__", by decide +kernel, by decide +kernel, fun A s' R e h => bi F.entry_str_eq ?_ (same e h)⟩
    rw [show (false : Bool) = Bo s o from (ho _ (.head _)).symm]; rfl
   ·refine ⟨"str.__eq__", by decide +kernel, by decide +kernel, fun A s' R e h => bi F.entry_str_eq ?_ (same e h)⟩
    rw [show (true : Bool) = Bo s o from (ho _ (.head _)).symm]; rfl
   ·refine ⟨"str.__contains__", by decide +kernel, by decide +kernel, fun A s' R e h => bi F.entry_str_contains ?_ (same e h)⟩
    rw [show (false : Bool) = Cj s o from (ho _ (.head _)).symm]; rfl
   ·refine ⟨"str.__contains__", by decide +kernel, by decide +kernel, fun A s' R e h => bi F.entry_str_contains ?_ (same e h)⟩
    rw [show (true : Bool) = Cj s o from (ho _ (.head _)).symm]; rfl
   ·refine ⟨"str.__add__", by decide +kernel, by decide +kernel, fun A s' R e h => codeAny_builtin F.entry_str_add ?_⟩
    rw [Ac4 s o t u (ho _ (.head _))]
    exact x_rule (wpAny_pure (same e h))
   ·refine ⟨"str.__add__", by decide +kernel, by decide +kernel, fun A s' R e h => codeAny_builtin F.entry_str_add ?_⟩
    rw [Afo s o t u (ho _ (.head _)) (ho _ (.tail _ (.head _))) (ho _ (.tail _ (.tail _ (.head _))))]
    subst e
    exact x_fresh (wpAny_pure h)
   ·refine ⟨"str.__ne__", by decide +kernel, by decide +kernel, fun A s' R e h => bi F.entry_str_ne ?_ (same e h)⟩
    rw [show (false : Bool) = Pc s o from (ho _ (.head _)).symm]; rfl
   ·refine ⟨"str.__ne__", by decide +kernel, by decide +kernel, fun A s' R e h => bi F.entry_str_ne ?_ (same e h)⟩
    rw [show (true : Bool) = Pc s o from (ho _ (.head _)).symm]; rfl
  ·cases h
 ·split at h
  ·rename_i i t _ j u
   split at h <;> cases h
   ·refine ⟨"int.__ge__", by decide +kernel, by decide +kernel, fun A s' R e h => bi F.entry_int_ge ?_ (same e h)⟩
    rw [show (false : Bool) = decide (i >= j) from (decide_eq_false (ho _ (.head _))).symm]; rfl
   ·refine ⟨"int.__ge__", by decide +kernel, by decide +kernel, fun A s' R e h => bi F.entry_int_ge ?_ (same e h)⟩
    rw [show (true : Bool) = decide (i >= j) from (decide_eq_true (ho _ (.head _))).symm]; rfl
   ·refine ⟨"int.__lt__", by decide +kernel, by decide +kernel, fun A s' R e h => bi F.entry_int_lt ?_ (same e h)⟩
    rw [show (false : Bool) = decide (i < j) from (decide_eq_false (ho _ (.head _))).symm]; rfl
   ·refine ⟨"int.__lt__", by decide +kernel, by decide +kernel, fun A s' R e h => bi F.entry_int_lt ?_ (same e h)⟩
    rw [show (true : Bool) = decide (i < j) from (decide_eq_true (ho _ (.head _))).symm]; rfl
   ·refine ⟨"int.__gt__", by decide +kernel, by decide +kernel, fun A s' R e h => bi F.entry_int_gt ?_ (same e h)⟩
    rw [show (false : Bool) = decide (i > j) from (decide_eq_false (ho _ (.head _))).symm]; rfl
   ·refine ⟨"int.__gt__", by decide +kernel, by decide +kernel, fun A s' R e h => bi F.entry_int_gt ?_ (same e h)⟩
    rw [show (true : Bool) = decide (i > j) from (decide_eq_true (ho _ (.head _))).symm]; rfl
  ·cases h
 ·cases h
noncomputable def Ba (s : Str) (lo hi : Int) (r : Str) : Prop :=
 (Builtin.Str.strSliceIndices (some lo) (some hi) 1 s.length).length ≠ s.length /\ (⟨((Builtin.Str.strSliceIndices (some lo) (some hi) 1 s.length).filterMap (s.cps[·]?)).toArray⟩ : Str) = r /\ r.length <= sizeLine
noncomputable def Am6 : List Str -> Nat -> Str
 | [], _ => ⟨#[]⟩
 | a :: l, j => match j with
  | 0 => a
  | j + 1 => Am6 l j
noncomputable def slO (o : Obj) : Option (Value × Value × Value) := match o with
 | ⟨cl, _, data, _⟩ => match cl with
  | .type cn => match PySem.W.S.eqLit 439771360628 cn with
   | false => none
   | true => match data with
    | .fields vs => match vs.toList with
     | [v1, v2, v3] => some (v1, v2, v3)
     | _ => none
    | _ => none
  | _ => none
theorem Act {o : Obj} {v1 v2 v3 : Value} (e : slO o = some (v1, v2, v3)) : o.cls = .type "slice" /\ o.data = .fields #[v1, v2, v3] := by
 unfold slO at e
 split at e
 rename_i cl dd data sl
 split at e
 ·split at e
  ·cases e
  ·rename_i hcn
   split at e
   ·rename_i vs
    split at e
    ·rename_i hvs
     cases e
     exact ⟨congrArg Value.type (Dk (b := "slice") (by decide +kernel) hcn), congrArg Data.fields (Array.ext' hvs : vs = #[v1, v2, v3])⟩
    ·cases e
   ·cases e
 ·cases e
noncomputable def slN (a b v1 v2 v3 : Value) : Option (Str × Nat × Int × Int) := match a with
 | .str s _ => match b with
  | .ref ad => match v1 with
   | .int lo _ => match v2 with
    | .int hi _ => match v3 with
     | .none => some (s, ad, lo, hi)
     | _ => none
    | _ => none
   | _ => none
  | _ => none
 | _ => none
theorem Aeh {a b v1 v2 v3 : Value} {s : Str} {ad : Nat} {lo hi : Int} (e : slN a b v1 v2 v3 = some (s, ad, lo, hi)) : ∃ t tl tu, a = .str s t /\ b = .ref ad /\ v1 = .int lo tl /\ v2 = .int hi tu /\ v3 = .none := by
 unfold slN at e
 split at e
 ·split at e
  ·split at e
   ·split at e
    ·split at e
     ·cases e; exact ⟨_, _, _, rfl, rfl, rfl, rfl, rfl⟩
     ·cases e
    ·cases e
   ·cases e
  ·cases e
 ·cases e
noncomputable def Pw (cs : List Gv) (x : Nat) (c : Code) (o : Obj) (tok : Nat) : Option (Nat × Value × Nat × List Prop) := match two c with
 | none => none
 | some q => match slO o with
  | none => none
  | some v => match slN q.2.1 q.2.2 v.1 v.2.1 v.2.2 with
   | none => none
   | some z => match PySem.W.S.eqLit 500416356548588640944365259017385332 q.1 with
    | true => match Vs cs x with
     | .s r => some (z.2.1, .str r tok, 1, [Ba z.1 z.2.2.1 z.2.2.2 r])
     | .g _ _ => none
     | .u _ => none
    | false => none
noncomputable def Rg (prog : Program) (w : World) (cs : List Gv) (x : Nat) (c : Code) (o : Obj) (tok : Nat) : Option (Nat × Value × Nat × List Prop) := match Nat.blt x 32 with
 | true => Pw cs x c o tok
 | false => Wb prog w cs (x - 32) c o tok
theorem Tp {prog : Program} {w : World} {cs : List Gv} {y : Nat} {c : Code} {tok : Nat} {v : Value} {di : Nat} {obs : List Prop} (e : Tx prog w cs y c tok = some (v, di, obs)) (ho : ∀ p ∈ obs, p) :
  c.quiet = true /\ Qv prog w c tok v di := by
 unfold Tx at e
 split at e
 ·cases e
 ·rename_i hq
  split at e
  ·cases e
   exact ⟨by rw [Gl]; exact hq, ho _ (.head _)⟩
  ·cases e
  ·cases e
theorem Tu {prog : Program} {w : World} {cs : List Gv} {y : Nat} {c : Code} {o : Obj} {tok a : Nat} {v : Value} {di : Nat} {obs : List Prop} (e : Wb prog w cs y c o tok = some (a, v, di, obs)) (ho : ∀ p ∈ obs, p) :
  c.quiet = true /\ Qn prog w c tok a o v di := by
 unfold Wb at e
 split at e
 ·cases e
 ·rename_i hq
  split at e
  ·cases e
   exact ⟨by rw [Gl]; exact hq, ho _ (.head _)⟩
  ·cases e
  ·cases e
noncomputable abbrev Pq (prog : Program) (w : World) (c : Code) (tok : Nat) (v : Value) (di : Nat) : Prop := c.quiet = true /\ Qv prog w c tok v di
noncomputable abbrev Rq (prog : Program) (w : World) (c : Code) (tok : Nat) (a : Nat) (o : Obj) (v : Value) (di : Nat) : Prop := c.quiet = true /\ Qn prog w c tok a o v di
theorem St {prog : Program} {w : World} {x : Nat} {c : Code} {tok : Nat} {v : Value} {di : Nat} {obs : List Prop} (e : Q6 x c tok = some (v, di, obs)) (ho : ∀ p ∈ obs, p) : Pq prog w c tok v di := by
 unfold Q6 at e
 split at e
 ·cases e
 rename_i q hq
 split at e
 ·cases e
 rename_i p hp
 split at e
 ·rename_i hid
  obtain ⟨n, v', di', obs'⟩ := p
  cases e
  obtain ⟨id', h1, h2, h3⟩ := U2 prog w _ _ _ _ _ _ _ _ hp ho
  rw [W5 hq, Dk h1 hid]
  exact ⟨Code.quiet_builtin _ h2, h3⟩
 ·cases e
theorem Ut {V : PV} {cs : List Gv} (h : V.leaf0 = R4 V.prog V.w cs) : LeafOk0 V := ⟨fun x c tok v di obs e ho => by
 rw [h] at e
 unfold R4 at e
 split at e
 ·exact St e ho
 ·exact Tp e ho⟩
theorem Nc {s : Str} {t : Nat} {lo hi : Int} {tl tu : Nat} {r : Str} (h : Ba s lo hi r) : sliceMade s t (some (lo, tl)) (some (hi, tu)) none = .str r := by
 obtain ⟨h1, h2, _⟩ := h
 unfold sliceMade slicePicked
 rw [if_neg]
 ·exact congrArg Made.str h2
 ·simp only [Option.map_some, Option.map_none, Option.getD_none]
  simpa using h1
theorem S0 {prog : Program} {w : World} {cs : List Gv} {x : Nat} {c : Code} {o : Obj} {tok a : Nat} {v : Value} {di : Nat} {obs : List Prop} (e : Pw cs x c o tok = some (a, v, di, obs)) (ho : ∀ p ∈ obs, p) : Rq prog w c tok a o v di := by
 unfold Pw at e
 split at e
 ·cases e
 rename_i q hq
 obtain ⟨id, a1, b1⟩ := q
 have hc := W5 hq
 split at e
 ·cases e
 rename_i q hq
 obtain ⟨v1, v2, v3⟩ := q
 obtain ⟨o1, o2⟩ := Act hq
 split at e
 ·cases e
 rename_i q hq
 obtain ⟨s, ad, lo, hi⟩ := q
 obtain ⟨t, tl, tu, rfl, rfl, rfl, rfl, rfl⟩ := Aeh hq
 split at e
 ·rename_i hid
  have hid := Dk (b := "str.__getitem__") (by decide +kernel) hid
  dsimp only at hid
  subst hid
  split at e
  ·cases e
   have hs := ho _ (.head _)
   rw [hc]
   refine ⟨Code.quiet_builtin _ (by decide +kernel), fun A s' R ht hg hR => ?_⟩
   refine codeAny_builtin F.entry_str_getitem ?_
   rw [Around.under_plainId F.slot_str_getitem.plain]
   refine meets_str_getitem_slice s t _ (some (lo, tl)) (some (hi, tu)) none (by rfl) prog w A R s' ⟨⟨_, hg, o1, o2⟩, ?_⟩
   rw [Nc hs]
   subst ht
   exact ⟨hs.2.2, hR⟩
  ·cases e
  ·cases e
 ·cases e
theorem Wh {V : PV} {cs : List Gv} (h : V.leaf1 = Rg V.prog V.w cs) : LeafOk1 V := ⟨fun x c o tok a v di obs e ho => by
 rw [h] at e
 unfold Rg at e
 split at e
 ·exact S0 e ho
 ·exact Tu e ho⟩
noncomputable def Acn (P : Params) (a : Nat) : FuncData := match (Mq P).get a with
 | some o => match o.data with
  | .func fd => fd
  | _ => R3
 | none => R3
noncomputable def Fi : Stmt -> Expr | .For t .. => t | _ => .Name ⟨#[]⟩ ⟨0, 0, 0, 0⟩
noncomputable def Eb : Stmt -> List Stmt | .For _ _ b .. => b | _ => []
noncomputable def L8 : Stmt -> List Stmt | .For _ _ _ e .. => e | _ => []
noncomputable def Wj : Stmt -> List Stmt | .If _ b .. => b | _ => []
noncomputable def ifE : Stmt -> List Stmt | .If _ _ e .. => e | _ => []
noncomputable def Bl (P : Params) (a : Nat) : List Stmt := Aat (Acn P a).body
noncomputable def D5 (P : Params) (a cd L : Nat) : Env :=
 { scope := (Acn P a).scope, locals := L, globals := 3, cells := [], qual := (Acn P a).qualname ++ ⟨#[46, 60, 108, 111, 99, 97, 108, 115, 62, 46]⟩, func := some a, code := .ref cd, frame := some L, builtins := 0 }
noncomputable def Hg (P : Params) (a cd L it : Nat) (st : Stmt) : Code := .forLoop (Fi st) (.ref it) (Eb st) (L8 st) (D5 P a cd L)
structure NL where
 inst : Nat
 dict : Nat
 fn : Nat
 fnD : Nat
 rd : Nat
 cd : Nat
 ct : Nat
 cp : Nat
 pl : Nat
 pb : Nat
 t : Nat -> Nat
 h : Nat -> Int
 fdL : FuncData
 mod : Value
 ctu : Value
 cdR : List Value
noncomputable def Na : List Obj -> Nat -> BT -> BT
 | [], _, T => T
 | o :: l, j, T => Na l (j + 1) (T.ins j o)
noncomputable def Aeq (st : Stmt) (x : NL) : FuncData := match st with
 | .FunctionDef _ args body _ _ _ scope _ _ _ => { name := ⟨#[114, 101, 97, 100]⟩, qualname := ⟨#[95, 108, 97, 119, 95, 116, 111, 107, 101, 110, 115, 46, 60, 108, 111, 99, 97, 108, 115, 62, 46, 114, 101, 97, 100]⟩, params := args, body := .stmts body, scope, globals := 3, closure := [(⟨#[116, 101, 120, 116]⟩, x.ct), (⟨#[112, 108, 97, 99, 101]⟩, x.cp)], defaults := .none, kwdefaults := .none, doc := .none, pyModule := x.mod, annotations := none, code := .ref x.cd, closureTuple := x.ctu, builtins := 0 }
 | _ => R3
noncomputable def NL.addrs (x : NL) : List Nat := [x.inst, x.dict, x.fn, x.fnD, x.rd, x.cd, x.ct, x.cp, x.pl, x.pb]
noncomputable def NL.objs (x : NL) (P : Params) (txt : Str) (p : Int) (tp : Nat) (ln : Int) (tl : Nat) : List Obj := [
 ⟨.ref 82, some x.dict, .plain, #[]⟩,
 ⟨.type "dict", none, .dict #[⟨x.h 0, .str ⟨#[108, 105, 110, 101, 110, 111]⟩ (x.t 0), .int ln tl⟩, ⟨x.h 1, .str ⟨#[105, 110, 115, 116, 114, 101, 97, 109]⟩ (x.t 1), .ref x.fn⟩,
  ⟨x.h 2, .str ⟨#[119, 104, 105, 116, 101, 115, 112, 97, 99, 101]⟩ (x.t 2), .str ⟨#[10, 9, 13, 32]⟩ (x.t 3)⟩, ⟨x.h 3, .str ⟨#[112, 117, 115, 104, 98, 97, 99, 107]⟩ (x.t 4), .ref x.pb⟩] 4, #[]⟩,
 ⟨.type "function", some x.fnD, .func x.fdL, #[]⟩,
 ⟨.type "dict", none, .dict #[⟨x.h 4, .str ⟨#[114, 101, 97, 100]⟩ (x.t 5), .ref x.rd⟩] 1, #[]⟩,
 ⟨.type "function", none, .func (Aeq (B5 (Bl P 852) 1) x), #[]⟩,
 ⟨.type "code", none, .fields (Array.mk (.str ⟨#[114, 101, 97, 100]⟩ (x.t 6) :: .str ⟨#[95, 108, 97, 119, 95, 116, 111, 107, 101, 110, 115, 46, 60, 108, 111, 99, 97, 108, 115, 62, 46, 114, 101, 97, 100]⟩ (x.t 7) :: x.cdR)), #[]⟩,
 ⟨.type "cell", none, .cell (some (.str txt (x.t 8))), #[]⟩,
 ⟨.type "cell", none, .cell (some (.ref x.pl)), #[]⟩,
 ⟨.type "list", none, .seq #[.int p tp] 0, #[]⟩,
 ⟨.type "list", none, .seq #[] 0, #[]⟩]
structure GT where
 L : Nat
 it : Nat
 me : Nat
 t : Nat -> Nat
 h : Nat -> Int
noncomputable def GT.addrs (g : GT) : List Nat := [g.L, g.it, g.me]
noncomputable def A0 (es : List DictEntry) (n : Nat) : Obj := ⟨.type "frame", none, .dict (Array.mk es) n, #[]⟩
noncomputable def GT.ents (g : GT) (x : NL) (tok : Value) : List DictEntry := [⟨g.h 0, .str ⟨#[115, 101, 108, 102]⟩ (g.t 0), .ref x.inst⟩, ⟨g.h 1, .str ⟨#[116, 111, 107, 101, 110]⟩ (g.t 1), tok⟩, ⟨g.h 2, .str ⟨#[102, 105, 116, 101, 114]⟩ (g.t 2), .ref g.it⟩]
noncomputable def Bg (h : Int) (tk : Nat) (ch : Value) : DictEntry := ⟨h, .str ⟨#[99, 104]⟩ tk, ch⟩
noncomputable def GT.objs (g : GT) (x : NL) (frame : Obj) : List Obj := [frame, ⟨.type "callable_iterator", none, .fields #[.ref g.me, .str ⟨#[]⟩ (g.t 3), .bool false], #[]⟩, ⟨.type "method", none, .fields #[.ref 65, .ref x.inst], #[]⟩]
noncomputable def Ad (P : Params) : Stmt := B5 (Bl P 72) 3
noncomputable def Agm (P : Params) : List Stmt := ifE (B5 (Eb (Ad P)) 1)
noncomputable def D2 (P : Params) : Stmt := B5 (Agm P) 2
noncomputable def Cn (P : Params) : Stmt := B5 (Wj (B5 (Eb (Ad P)) 1)) 0
noncomputable def Ae (P : Params) (g : GT) (st : Stmt) : Code := Hg P 72 71 g.L g.it st
noncomputable def PVn (w : World) (olds : List Nat) (k N tk : Nat) (cs : List Gv) : PV := { prog := pw, w := w, kt := Mq w.params, old := olds, k := k, B := N + 884, T₀ := tk + 1573, hb := 256, D := 400, leaf0 := R4 pw w cs, leaf1 := Rg pw w cs, gen := Aba cs }
noncomputable def Ao1 (w : World) (olds : List Nat) (k N tk : Nat) (cs : List Gv) (objs : List Obj) (n hs : Nat) (c : Code) : Res :=
 Bw (PVn w olds k N tk cs) n hs c .base (.pure (.again c)) (Na objs 0 .nil) 0 0 [] [] []
noncomputable def Iv : List Prop -> Prop
 | [] => True
 | p :: l => p /\ Iv l
theorem Iv.all : ∀ {l : List Prop}, Iv l -> ∀ p ∈ l, p
 | _ :: _, h, _, .head _ => h.1
 | _ :: _, h, _, .tail _ m => h.2.all _ m
theorem Yd (P : Params) : (Mq P).get 105 = none := by kernel_rfl
theorem Zk (P : Params) : (Mq P).get 847 = none := by kernel_rfl
theorem Hv {P : Params} {a : Nat} {o : Obj} (h : (Mq P).get a = some o) : a ≠ 105 /\ a ≠ 847 :=
 ⟨fun e => (by rw [e, Yd] at h; cases h), fun e => (by rw [e, Zk] at h; cases h)⟩
structure At (w : World) (s : Shared) (L : List (Nat × Obj)) : Prop where
 gens : s.gens = #[]
 top : ∀ a o, (Mq w.params).get a = some o -> s.heap.get? a = some o /\ a < 884
 size : 884 <= s.heap.objs.size
 toks : 1573 <= s.toks
 own : ∀ p ∈ L, s.heap.get? p.1 = some p.2
 nd : (L.map (·.1)).Nodup
 hi : ∀ p ∈ L, 884 <= p.1 \/ p.1 = 105 \/ p.1 = 847
structure Keeps (X : List Nat) (s s' : Shared) : Prop where
 keep : ∀ b o, s.heap.get? b = some o -> b ∉ X -> s'.heap.get? b = some o
 size : s.heap.objs.size <= s'.heap.objs.size
 dr : s'.drawn = s.drawn
 os : s'.os = s.os
theorem Keeps.refl (X : List Nat) (s : Shared) : Keeps X s s := ⟨fun _ _ h _ => h, Nat.le_refl _, rfl, rfl⟩
theorem Keeps.trans {X : List Nat} {s s' s'' : Shared} (a : Keeps X s s') (b : Keeps X s' s'') : Keeps X s s'' :=
 ⟨fun c o h n => b.keep _ _ (a.keep _ _ h n) n, Nat.le_trans a.size b.size, b.dr.trans a.dr, b.os.trans a.os⟩
theorem Keeps.mono {X Y : List Nat} {s s' : Shared} (a : Keeps X s s') (h : ∀ x ∈ X, x ∈ Y) : Keeps Y s s' :=
 ⟨fun c o e n => a.keep _ _ e fun m => n (h _ m), a.size, a.dr, a.os⟩
theorem At.sub {w : World} {s : Shared} {L L' : List (Nat × Obj)} (H : At w s L) (h : ∀ p ∈ L', p ∈ L) (nd : (L'.map (·.1)).Nodup) : At w s L' :=
 ⟨H.gens, H.top, H.size, H.toks, fun p hp => H.own p (h p hp), nd, fun p hp => H.hi p (h p hp)⟩
theorem At.perm {w : World} {s : Shared} {L L' : List (Nat × Obj)} (H : At w s L) (h : L'.Perm L) : At w s L' :=
 H.sub (fun p hp => h.mem_iff.mp hp) ((h.map (·.1)).nodup_iff.mpr H.nd)
theorem At.frame {w : World} {s s' : Shared} {L M L' : List (Nat × Obj)} (H : At w s (L ++ M)) (H' : At w s' L') (K : Keeps (L.map (·.1)) s s')
  (h : ∀ p ∈ L', p.1 ∈ L.map (·.1) \/ s.heap.objs.size <= p.1) : At w s' (L' ++ M) := by
 have nd := H.nd
 rw [List.map_append] at nd
 obtain ⟨n1, n2, n3⟩ := List.nodup_append.mp nd
 have lt : ∀ p ∈ M, p.1 < s.heap.objs.size := fun p hp => Heap.lt_size (H.own p (List.mem_append_right _ hp))
 refine ⟨H'.gens, H'.top, H'.size, H'.toks, fun p hp => ?_, ?_, fun p hp => ?_⟩
 ·rcases List.mem_append.mp hp with hp | hp
  ·exact H'.own p hp
  ·exact K.keep _ _ (H.own p (List.mem_append_right _ hp)) fun m => n3 _ m _ (List.mem_map_of_mem hp) rfl
 ·rw [List.map_append]
  refine List.nodup_append.mpr ⟨H'.nd, n2, fun a ha b hb e => ?_⟩
  subst e
  obtain ⟨p, hp, rfl⟩ := List.mem_map.mp ha
  obtain ⟨q, hq, e⟩ := List.mem_map.mp hb
  rcases h p hp with m | m
  ·exact n3 _ m _ hb rfl
  ·have := lt q hq; lia
 ·rcases List.mem_append.mp hp with hp | hp
  ·exact H'.hi p hp
  ·exact H.hi p (List.mem_append_right _ hp)
noncomputable def M5 : List Obj -> Nat -> BT -> Bool
 | [], _, _ => true
 | o :: l, j, T => match (T.ins j o).get j with
  | some _ => M5 l (j + 1) (T.ins j o)
  | none => false
theorem O7 : ∀ (l : List Obj) (j : Nat) (T : BT) (i : Nat), M5 l j T = true -> ∀ o, (Na l j T).get i = some o -> (T.get i = some o) \/ (j <= i /\ l[i - j]? = some o)
 | [], j, T, i, _, o, e => .inl e
 | x :: l, j, T, i, hc, o, e => by
  unfold M5 at hc
  split at hc
  ·rename_i o' full
   have g := fun k => BT.get_ins x T j (by rw [full]; rfl) k
   have z := O7 l (j + 1) (T.ins j x) i hc o e
   rcases z with h2 | ⟨h1, h2⟩
   ·rw [g] at h2
    by_cases hi : i = j
    ·rw [if_pos hi] at h2
     right
     refine ⟨by lia, ?_⟩
     subst hi
     rw [Nat.sub_self]
     exact h2
    ·rw [if_neg hi] at h2
     exact .inl h2
   ·right
    refine ⟨by lia, ?_⟩
    have : i - j = (i - (j + 1)) + 1 := by lia
    rw [this, List.getElem?_cons_succ]
    exact h2
  ·cases hc
inductive End where
 | fin (f : Flow)
 | again (c : Code)
 | call (c : Code) (d : Nat)
 | stk
 | exc (e : Value)
noncomputable def I3 : List Nat -> BT -> List (Option Obj)
 | [], _ => []
 | j :: l, T => T.get j :: I3 l T
noncomputable def Adr (ok : Bool) (ws : List Nat) (x : Res) : Option (End × List (Option Obj) × Nat × Nat × List Nat × List Prop) := match ok with
 | false => none
 | true => match x.t with
  | .pure fin => match x.κ with
   | .base => match fin with
    | .done f => some (.fin f, I3 ws x.T, x.m, x.i, x.l, x.ob)
    | .again c' => some (.again c', I3 ws x.T, x.m, x.i, x.l, x.ob)
   | .ret .. => none
  | .call c' hd _ _ _ => match hd with
   | none => some (.call c' (wt x.c + Xv x.κ), I3 ws x.T, x.m, x.i, x.l, x.ob)
   | some _ => none
  | .stack _ => some (.stk, I3 ws x.T, x.m, x.i, x.l, x.ob)
  | .raise e => match x.κ with
   | .base => some (.exc e, I3 ws x.T, x.m, x.i, x.l, x.ob)
   | .ret .. => none
  | _ => none
noncomputable def kSt : Sem Fin -> List (Code × Pos) -> Sem Fin
 | .stack k, st => k st
 | t, _ => t
noncomputable def Cb : Sem Fin -> Result -> Sem Fin
 | .call _ _ _ _ k, r => k r
 | t, _ => t
noncomputable abbrev PVx (D : Nat) (w : World) (olds : List Nat) (k N tk : Nat) (cs : List Gv) : PV := { prog := pw, w := w, kt := Mq w.params, old := olds, k := k, B := N + 884, T₀ := tk + 1573, hb := 256, D := D, leaf0 := R4 pw w cs, leaf1 := Rg pw w cs, gen := Aba cs }
noncomputable def Ay (D : Nat) (w : World) (olds : List Nat) (k N tk : Nat) (cs : List Gv) (objs : List Obj) (n hs : Nat) (c : Code) (κ : Kn) (t : Sem Fin) : Res :=
 Bw (PVx D w olds k N tk cs) n hs c κ t (Na objs 0 .nil) 0 0 [] [] []
noncomputable abbrev Ev (D : Nat) (w : World) (olds : List Nat) (k N tk : Nat) (cs : List Gv) (objs : List Obj) (n hs : Nat) (c : Code) (κ : Kn) (t : Sem Fin) (ws : List Nat) (e : End) (os : List (Option Obj)) (m i : Nat) (obs : List Prop) : Prop :=
 Adr (M5 objs 0 .nil) ws (Ay D w olds k N tk cs objs n hs c κ t) = some (e, os, m, i, (Ay D w olds k N tk cs objs n hs c κ t).r, obs)
noncomputable abbrev Ec (D : Nat) (w : World) (olds : List Nat) (k N tk : Nat) (cs : List Gv) (objs : List Obj) (n hs : Nat) (c : Code) (ws : List Nat) (e : End) (os : List (Option Obj)) (m i : Nat) (obs : List Prop) : Prop := Ev D w olds k N tk cs objs n hs c .base (.pure (.again c)) ws e os m i obs
noncomputable abbrev Es (D : Nat) (w : World) (olds : List Nat) (k N tk : Nat) (cs : List Gv) (objs : List Obj) (n hs : Nat) (c : Code) (κ : Kn) (t : Sem Fin) (ws : List Nat) (e : End) (m i : Nat) (obs : List Prop) : Prop := Ev D w olds k N tk cs objs n hs c κ t ws e (om objs) m i obs
noncomputable abbrev Et (D : Nat) (w : World) (olds : List Nat) (k N tk : Nat) (cs : List Gv) (objs : List Obj) (n hs : Nat) (c : Code) (ws : List Nat) (e : End) (m i : Nat) (obs : List Prop) : Prop := Ec D w olds k N tk cs objs n hs c ws e (om objs) m i obs
noncomputable abbrev Ak (w : World) : Model := model pw w
noncomputable def MK (w : World) (A : Around) (R : Result -> Shared -> Prop) (c : Code) (κ : Kn) (t : Sem Fin) (s : Shared) : Prop :=
 wpOwn (Ak w) (Bb A κ) c t (postC pw w (Bb A κ) (Ml pw w A R κ)) (postE (Ml pw w A R κ)) s
noncomputable def Eu (olds : List Nat) (k B j : Nat) : Nat := if j < k then olds.getD j 0 else B + (j - k)
theorem Qq : ∀ (l : List Nat) (j : Nat), Qi l j = l.getD j 0
 | [], _ => rfl
 | a :: l, 0 => rfl
 | a :: l, j + 1 => by
  show Qi l j = _
  rw [Qq l j]
  simp [List.getD]
theorem Lf (V : PV) (j : Nat) : Iq V j = Eu V.old V.k V.B j := by
 unfold Iq Eu
 by_cases h : j < V.k
 ·have : Nat.blt j V.k = true := Nat.ble_eq_true_of_le h
  rw [this, if_pos h]
  exact Qq _ _
 ·have : Nat.blt j V.k = false := by
   cases e : Nat.blt j V.k with
   | false => rfl
   | true => exact absurd (X.blt_true e) h
  rw [this, if_neg h]
theorem Oi : ∀ (ws : List Nat) (T : BT), I3 ws T = ws.map T.get
 | [], _ => rfl
 | j :: l, T => by
  show T.get j :: I3 l T = _
  rw [Oi l T]; rfl
theorem Ae6 {w : World} {A : Around} {R : Result -> Shared -> Prop} {c : Code} {f : Flow} {s : Shared} (h : R (.ok f) s) : MK w A R c .base (.pure (.done f)) s :=
 y_pure _ _ _ _ _ _ _ _ _ (y_done _ _ _ _ _ _ h)
theorem Uu {w : World} {A : Around} {R : Result -> Shared -> Prop} {c c' : Code} {s : Shared} (hq : c'.quiet = true) (h : codeAny (Ak w) A c' R s) : MK w A R c .base (.pure (.again c')) s :=
 y_pure _ _ _ _ _ _ _ _ _ (y_again _ _ _ _ _ _ hq h)
noncomputable def Xw (w : World) (A : Around) (R : Result -> Shared -> Prop) (D : Nat) (x : Res) (e : End) (s' : Shared) : Prop := match e with
 | .fin f => R (.ok f) s'
 | .again c' => c'.quiet = true /\ codeAny (Ak w) A c' R s'
 | .call c' d => ∀ A' : Around, A'.handled = none -> A'.depth <= D + d -> codeAny (Ak w) A' c' (fun r s'' => MK w A R x.c x.κ (Cb x.t r) s'') s'
 | .stk => ∀ (p : Pos) (below : List (Code × Pos)), Lies ((Bb A x.κ).under x.c) ((x.c, p) :: below) -> MK w A R x.c x.κ (kSt x.t ((x.c, p) :: below)) s'
 | .exc e => R (.error e) s'
theorem Ea (c : Code) : c.cUnits <= 10 := by
 have hf : ∀ id a, (Code.builtin id a).frames <= 3 := by
  intro id a
  unfold Code.frames
  split <;> first | lia | (split <;> lia)
 have hn : ∀ c : Code, (∀ id a, c ≠ .builtin id a) -> c.frames <= 1 := by
  intro c hc
  unfold Code.frames
  split <;> first | (exact absurd rfl (hc _ _)) | (split <;> lia)
 cases c with
 | builtin id a =>
  have := hf id a
  show 1 + 3 * (Code.builtin id a).frames <= 10
  lia
 | call f a => show 1 <= 10; decide
 | _ => exact Nat.le_trans (Nat.mul_le_mul_left 3 (hn _ (fun _ _ h => by cases h))) (by decide)
theorem T7 (c : Code) : 1 <= wt c := by
 unfold wt
 split
 ·split <;> decide
 ·decide
theorem Gw (A : Around) : ∀ κ, (Bb A κ).units <= A.units + 10 * Xv κ
 | .base => by show A.units <= _; lia
 | .ret c _ κ => by
  show (Bb A κ).units + c.cUnits <= A.units + 10 * (wt c + Xv κ)
  have := Gw A κ
  have := Ea c
  have := T7 c
  lia
noncomputable def Om : Kn -> List Env
 | .base => []
 | .ret c _ κ => c.envs ++ Om κ
noncomputable def Qo (c : Code) (κ : Kn) : List Env := c.envs ++ Om κ
theorem Gb {A : Around} {es : List Env} (h : A.frames = some es) : ∀ κ, (Bb A κ).frames = some (Om κ ++ es)
 | .base => h
 | .ret c _ κ => by
  show pushEnvs c.envs (Bb A κ).frames = _
  rw [Gb h κ, pushEnvs_eq]
  show some (c.envs ++ (Om κ ++ es)) = some ((c.envs ++ Om κ) ++ es)
  rw [List.append_assoc]
noncomputable def Abq (w : World) (A : Around) (R : Result -> Shared -> Prop) (D : Nat) (x : Res) (e : End) (s' : Shared) : Prop := match e with
 | .fin f => R (.ok f) s'
 | .again c' => c'.quiet = true /\ codeAny (Ak w) A c' R s'
 | .call c' d => ∀ A' : Around, A'.handled = none -> A'.depth <= D + d -> A'.units <= A.units + 10 * d -> (∀ es, A.frames = some es -> A'.frames = some (Qo x.c x.κ ++ es)) -> codeAny (Ak w) A' c' (fun r s'' => MK w A R x.c x.κ (Cb x.t r) s'') s'
 | .stk => ∀ (p : Pos) (below : List (Code × Pos)), Lies ((Bb A x.κ).under x.c) ((x.c, p) :: below) -> MK w A R x.c x.κ (kSt x.t ((x.c, p) :: below)) s'
 | .exc e => R (.error e) s'
theorem U7 {w : World} {A : Around} {R : Result -> Shared -> Prop} {D : Nat} {x : Res} {e : End} {s' : Shared} (h : Xw w A R D x e s') : Abq w A R D x e s' := by
 cases e with
 | call c' d => exact fun A' a b _ _ => h A' a b
 | _ => exact h
theorem F9 {D : Nat} {w : World} {A : Around} {s : Shared} {R : Result -> Shared -> Prop} {c : Code} {κ : Kn} {t : Sem Fin} {L : List (Nat × Obj)} {olds : List Nat} {objs : List Obj} {k N tk n hs : Nat} {cs : List Gv} {W : List (Nat × Obj)} {ws : List Nat} {os : List (Option Obj)} {e : End} {m i : Nat} {obs : List Prop}
  (ev : Ev D w olds k N tk cs objs n hs c κ t ws e os m i obs)
  (hA : A.handled = none) (hD : A.depth <= D) (H : At w s L) (ho : L.map (·.1) = olds) (hob : L.map (·.2) = objs) (hk : L.length = k) (hN : s.heap.objs.size = N + 884) (hT : s.toks = tk + 1573)
  (hws : W.map (·.1) = ws) (hos : W.map (fun p => some p.2) = os) (hwn : ws.Nodup) (hwm : ∀ j ∈ ws, j < k + m) (hobs : Iv obs)
  (cont : ∀ s', At w s' (W.map fun p => (Eu olds k (N + 884) p.1, p.2)) -> Keeps olds s s' -> s'.toks = s.toks + i -> s'.heap.objs.size = s.heap.objs.size + m -> Abq w A R A.depth (Ay D w olds k N tk cs objs n hs c κ t) e s') :
  MK w A R c κ t s := by
 let V := PVx D w olds k N tk cs
 let F : Nat -> Obj -> Prop := fun b o => s.heap.get? b = some o /\ b ∉ olds
 have hlen : olds.length = k := by rw [<- ho, List.length_map, hk]
 have adr_old : ∀ j, j < k -> ∃ p, L[j]? = some p /\ Iq V j = p.1 := fun j hj => by
  have hj' : j < L.length := by lia
  refine ⟨L[j], List.getElem?_eq_getElem hj', ?_⟩
  rw [Lf]
  show Eu olds k (N + 884) j = _
  unfold Eu
  rw [if_pos hj, <- ho]
  simp [List.getD, List.getElem?_eq_getElem hj']
 have adr_mem : ∀ j, j < k -> Iq V j ∈ olds := fun j hj => by
  obtain ⟨p, hp, e⟩ := adr_old j hj
  rw [e, <- ho]
  exact List.mem_map_of_mem (List.mem_of_getElem? hp)
 have hnd : olds.Nodup := ho ▸ H.nd
 have O : POk V F := {
  kt := fun a o e => ⟨(H.top a o e).1, fun m => by
   rw [<- ho] at m
   obtain ⟨p, hp, e'⟩ := List.mem_map.mp m
   have := H.hi p hp
   have := (H.top a o e).2
   have := Hv e
   lia⟩
  low := fun b o e => by
   have h1 := Heap.lt_size e.1
   rw [hN] at h1
   exact h1
  apart := fun b o j e hj q => e.2 (q ▸ adr_mem j hj)
  inj := fun i j hi hj e => by
   obtain ⟨p, hp, e1⟩ := adr_old i hi
   obtain ⟨q, hq, e2⟩ := adr_old j hj
   have hn := H.nd
   have h1 : (L.map (·.1))[i]? = some p.1 := by rw [List.getElem?_map, hp]; rfl
   have h2 : (L.map (·.1))[j]? = some q.1 := by rw [List.getElem?_map, hq]; rfl
   have : p.1 = q.1 := by rw [<- e1, <- e2, e]
   rw [<- this] at h2
   exact (List.getElem?_inj (by rw [List.length_map]; have : V.k = k := rfl; lia) hn).mp (h1.trans h2.symm)
  oldlow := fun j hj => by
   obtain ⟨p, hp, e⟩ := adr_old j hj
   rw [e]
   have h1 := Heap.lt_size (H.own p (List.mem_of_getElem? hp))
   rw [hN] at h1
   exact h1
  leaf0 := Ut (cs := cs) rfl
  leaf1 := Wh (cs := cs) rfl }
 have key : ∀ x : Res, Adr (M5 objs 0 .nil) ws x = some (e, os, m, i, x.r, obs) -> M5 objs 0 .nil = true /\ x.l = x.r /\ x.ob = obs /\ x.m = m /\ x.i = i /\ I3 ws x.T = os /\
   ((∃ f, e = .fin f /\ x.κ = .base /\ x.t = .pure (.done f)) \/ (∃ c', e = .again c' /\ x.κ = .base /\ x.t = .pure (.again c')) \/ (∃ c' g lv kk, e = .call c' (wt x.c + Xv x.κ) /\ x.t = .call c' none g lv kk) \/ (∃ kk, e = .stk /\ x.t = .stack kk) \/ (∃ v, e = .exc v /\ x.κ = .base /\ x.t = .raise v)) := by
  intro x hx
  unfold Adr at hx
  split at hx
  ·cases hx
  ·rename_i hb
   refine ⟨hb, ?_⟩
   split at hx
   ·rename_i fin ht
    split at hx
    ·rename_i hκ
     split at hx
     ·rename_i f
      simp only [Option.some.injEq, Prod.mk.injEq] at hx
      obtain ⟨h1, h2, h3, h4, h5, h6⟩ := hx
      exact ⟨h5, h6, h3, h4, h2, .inl ⟨f, h1.symm, hκ, ht⟩⟩
     ·rename_i c'
      simp only [Option.some.injEq, Prod.mk.injEq] at hx
      obtain ⟨h1, h2, h3, h4, h5, h6⟩ := hx
      exact ⟨h5, h6, h3, h4, h2, .inr (.inl ⟨c', h1.symm, hκ, ht⟩)⟩
    ·cases hx
   ·rename_i c' hd g lv kk ht
    split at hx
    ·simp only [Option.some.injEq, Prod.mk.injEq] at hx
     obtain ⟨h1, h2, h3, h4, h5, h6⟩ := hx
     exact ⟨h5, h6, h3, h4, h2, .inr (.inr (.inl ⟨c', g, lv, kk, h1.symm, ht⟩))⟩
    ·cases hx
   ·rename_i kk ht
    simp only [Option.some.injEq, Prod.mk.injEq] at hx
    obtain ⟨h1, h2, h3, h4, h5, h6⟩ := hx
    exact ⟨h5, h6, h3, h4, h2, .inr (.inr (.inr (.inl ⟨kk, h1.symm, ht⟩)))⟩
   ·rename_i v ht
    split at hx
    ·rename_i hκ
     simp only [Option.some.injEq, Prod.mk.injEq] at hx
     obtain ⟨h1, h2, h3, h4, h5, h6⟩ := hx
     exact ⟨h5, h6, h3, h4, h2, .inr (.inr (.inr (.inr ⟨v, h1.symm, hκ, ht⟩)))⟩
    ·cases hx
   ·cases hx
 obtain ⟨hchk, hlr, hoB, hm, hi, hget, hend⟩ := key _ ev
 have R0 : Rp V F (Na objs 0 .nil) 0 s.heap := ⟨by rw [hN], fun j o e => by
  rcases O7 objs 0 .nil j hchk o e with h | ⟨_, h⟩
  ·cases h
  ·rw [Nat.sub_zero] at h
   have hj : j < k := by
    have := (List.getElem?_eq_some_iff.mp h).1
    rw [<- hob, List.length_map] at this
    lia
   obtain ⟨p, hp, e1⟩ := adr_old j hj
   refine ⟨hj, ?_⟩
   rw [e1]
   have h2 : objs[j]? = some p.2 := by rw [<- hob, List.getElem?_map, hp]; rfl
   rw [h2] at h
   cases h
   exact H.own p (List.mem_of_getElem? hp), fun b o e => e.1⟩
 have hs0 : s = ⟨s.heap, #[], s.drawn, V.T₀ + 0, s.os⟩ := by
  have h1 := H.gens
  obtain ⟨a1, a2, a3, a4, a5⟩ := s
  simp only at h1 hT
  subst h1 hT
  rfl
 have main := Kf (V := V) (F := F) (A₀ := A) (R₀ := R) (d := s.drawn) (os := s.os) O hA hD n hs c κ t (Na objs 0 .nil) 0 0 [] [] [] (by
  refine ⟨hlr, by rw [show (Bw V n hs c κ t (Na objs 0 .nil) 0 0 [] [] []).ob = obs from hoB]; exact hobs.all, fun h D' => ?_⟩
  have hxm : (Bw V n hs c κ t (Na objs 0 .nil) 0 0 [] [] []).m = m := hm
  have hxi : (Bw V n hs c κ t (Na objs 0 .nil) 0 0 [] [] []).i = i := hi
  rw [hxi]
  rw [hxm] at D'
  have hsz : h.objs.size = N + 884 + m := D'.size
  have at' : At w ⟨h, #[], s.drawn, V.T₀ + i, s.os⟩ (W.map fun p => (Eu olds k (N + 884) p.1, p.2)) := {
   gens := rfl
   top := fun a o e => ⟨D'.keep _ _ (O.kt a o e), (H.top a o e).2⟩
   size := by show 884 <= h.objs.size; lia
   toks := by show 1573 <= tk + 1573 + i; lia
   own := fun q hq => by
    obtain ⟨p, hp, rfl⟩ := List.mem_map.mp hq
    have : (Ay D w olds k N tk cs objs n hs c κ t).T.get p.1 = some p.2 := by
     rw [Oi, <- hws, <- hos, List.map_map] at hget
     have := List.map_inj_left.mp hget p hp
     exact this
    have z := (D'.own _ _ this).2
    rw [Lf] at z
    exact z
   nd := by
    rw [List.map_map]
    have : (W.map ((fun q : Nat × Obj => q.1) ∘ fun p => (Eu olds k (N + 884) p.1, p.2))) = (ws.map fun j => Eu olds k (N + 884) j) := by
     rw [<- hws, List.map_map]; rfl
    rw [this]
    refine List.pairwise_map.mpr (List.Pairwise.imp_of_mem (fun {a b} ha hb ne q => ne ?_) hwn)
    refine POk.inj' O (m := m) (hwm a ha) (hwm b hb) ?_
    rw [Lf, Lf]
    exact q
   hi := fun q hq => by
    obtain ⟨p, hp, rfl⟩ := List.mem_map.mp hq
    show 884 <= Eu olds k (N + 884) p.1 \/ Eu olds k (N + 884) p.1 = 105 \/ Eu olds k (N + 884) p.1 = 847
    by_cases hj : p.1 < k
    ·have := adr_mem p.1 hj
     rw [Lf] at this
     have h2 : Eu olds k (N + 884) p.1 ∈ olds := this
     rw [<- ho] at h2
     obtain ⟨q, hq, e⟩ := List.mem_map.mp h2
     have := H.hi q hq
     rw [ho] at e
     lia
    ·unfold Eu; rw [if_neg hj]; lia }
  have kp : Keeps olds s ⟨h, #[], s.drawn, V.T₀ + i, s.os⟩ := ⟨fun b o e n => D'.keep _ _ ⟨e, n⟩, by show s.heap.objs.size <= h.objs.size; lia, rfl, rfl⟩
  have C := cont _ at' kp (by show tk + 1573 + i = s.toks + i; lia) (by show h.objs.size = s.heap.objs.size + m; lia)
  show MK w A R (Ay D w olds k N tk cs objs n hs c κ t).c (Ay D w olds k N tk cs objs n hs c κ t).κ (Ay D w olds k N tk cs objs n hs c κ t).t _
  rcases hend with ⟨f, he, hκ, ht⟩ | ⟨c', he, hκ, ht⟩ | ⟨c', g, lv, kk, he, ht⟩ | ⟨kk, he, ht⟩ | ⟨v, he, hκ, ht⟩
  ·rw [hκ, ht]; subst he; exact Ae6 C
  ·rw [hκ, ht]; subst he; exact Uu C.1 C.2
  ·rw [ht]
   subst he
   have hd := Dq (Nat.le_refl A.depth) (Ay D w olds k N tk cs objs n hs c κ t).κ
   have hw := Fc (Ay D w olds k N tk cs objs n hs c κ t).c
   refine y_call _ _ _ _ _ _ _ _ _ _ _ _ _ (fun e => by cases e) ?_
   have C' := C (((Bb A (Ay D w olds k N tk cs objs n hs c κ t).κ).under (Ay D w olds k N tk cs objs n hs c κ t).c).mark none) (D0 hA (Ay D w olds k N tk cs objs n hs c κ t).κ) (by
    show (Bb A (Ay D w olds k N tk cs objs n hs c κ t).κ).depth + (Ay D w olds k N tk cs objs n hs c κ t).c.weight <= _
    lia) (by
    show (Bb A (Ay D w olds k N tk cs objs n hs c κ t).κ).units + (Ay D w olds k N tk cs objs n hs c κ t).c.cUnits <= _
    have := Gw A (Ay D w olds k N tk cs objs n hs c κ t).κ
    have := Ea (Ay D w olds k N tk cs objs n hs c κ t).c
    have := T7 (Ay D w olds k N tk cs objs n hs c κ t).c
    lia) (fun es hes => by
    show pushEnvs (Ay D w olds k N tk cs objs n hs c κ t).c.envs (Bb A (Ay D w olds k N tk cs objs n hs c κ t).κ).frames = _
    rw [Gb hes, pushEnvs_eq]
    show some _ = some ((_ ++ _) ++ es)
    rw [List.append_assoc])
   rw [ht] at C'
   exact C'
  ·rw [ht]
   subst he
   refine y_stack _ _ _ _ _ _ _ _ _ fun p below hl => ?_
   have C' := C p below hl
   rw [ht] at C'
   exact C'
  ·rw [hκ, ht]; subst he; exact y_raise _ _ _ _ _ _ _ _ _ (y_err _ _ _ C))
 have fin := main.2.2 s.heap R0
 rw [<- hs0] at fin
 exact fin
theorem C5 {D : Nat} {w : World} {A : Around} {s : Shared} {R : Result -> Shared -> Prop} {c : Code} {κ : Kn} {t : Sem Fin} {L : List (Nat × Obj)} {olds : List Nat} {objs : List Obj} {k N tk n hs : Nat} {cs : List Gv} {W : List (Nat × Obj)} {ws : List Nat} {os : List (Option Obj)} {e : End} {m i : Nat} {obs : List Prop}
  (ev : Ev D w olds k N tk cs objs n hs c κ t ws e os m i obs)
  (hA : A.handled = none) (hD : A.depth <= D) (H : At w s L) (ho : L.map (·.1) = olds) (hob : L.map (·.2) = objs) (hk : L.length = k) (hN : s.heap.objs.size = N + 884) (hT : s.toks = tk + 1573)
  (hws : W.map (·.1) = ws) (hos : W.map (fun p => some p.2) = os) (hwn : ws.Nodup) (hwm : ∀ j ∈ ws, j < k + m) (hobs : Iv obs)
  (cont : ∀ s', At w s' (W.map fun p => (Eu olds k (N + 884) p.1, p.2)) -> Keeps olds s s' -> s'.toks = s.toks + i -> s'.heap.objs.size = s.heap.objs.size + m -> Xw w A R A.depth (Ay D w olds k N tk cs objs n hs c κ t) e s') :
  MK w A R c κ t s :=
 F9 ev hA hD H ho hob hk hN hT hws hos hwn hwm hobs (fun s' a b c d => U7 (cont s' a b c d))
theorem Aa {w : World} {A : Around} {R : Result -> Shared -> Prop} {c : Code} {s : Shared} (h : MK w A R c .base (.pure (.again c)) s) : codeAny (Ak w) A c R s := by
 intro Γ p hc hB
 exact (h Γ p hc hB).2 Γ p hc hB
end Mine
section
variable {A : Around} {s : Shared} {R : Result -> Shared -> Prop}
namespace Mine
theorem Gs {α β : Type} : ∀ (l : List α) (r : List β), l.length = r.length -> (l.zip r).map (·.1) = l
 | [], _, _ => rfl
 | a :: l, b :: r, h => by
  show a :: (l.zip r).map (·.1) = a :: l
  rw [Gs l r (by simpa using h)]
theorem I2 {α β : Type} : ∀ (l : List α) (r : List β), l.length = r.length -> (l.zip r).map (·.2) = r
 | [], [], _ => rfl
 | a :: l, b :: r, h => by
  show b :: (l.zip r).map (·.2) = b :: r
  rw [I2 l r (by simpa using h)]
theorem Rx (olds : List Nat) (B : Nat) : (List.range olds.length).map (Eu olds olds.length B) = olds := by
 apply List.ext_getElem
 ·simp
 ·intro i h1 h2
  simp [Eu, h2, List.getD]
theorem Ah {D : Nat} {w : World} {c : Code} {κ : Kn} {t : Sem Fin} {olds : List Nat} {objs objs' : List Obj} {k N tk n hs : Nat} {cs : List Gv} {e : End} {ws : List Nat} {m i : Nat} {obs : List Prop}
  (ev : Ev D w olds k N tk cs objs n hs c κ t ws e (objs'.map some) m i obs)
  (hA : A.handled = none) (hD : A.depth <= D) (H : At w s (olds.zip objs)) (hk : olds.length = k) (ho : objs.length = k) (ho' : objs'.length = k)
  (hw : ws = List.range k)
  (hN : s.heap.objs.size = N + 884) (hT : s.toks = tk + 1573) (hobs : Iv obs)
  (cont : ∀ s', At w s' (olds.zip objs') -> Keeps olds s s' -> s'.toks = s.toks + i -> s'.heap.objs.size = s.heap.objs.size + m -> Xw w A R A.depth (Ay D w olds k N tk cs objs n hs c κ t) e s') :
  MK w A R c κ t s := by
 subst hw
 subst hk
 refine C5 (W := (List.range olds.length).zip objs') ev hA hD H (Gs _ _ ho.symm) (I2 _ _ ho.symm) (by simp [ho]) hN hT ?_ ?_ List.nodup_range ?_ hobs ?_
 ·exact Gs _ _ (by simp [ho'])
 ·have := I2 (List.range olds.length) objs' (by simp [ho'])
  have h2 : ((List.range olds.length).zip objs').map (fun p => some p.2) = (((List.range olds.length).zip objs').map (·.2)).map some := by rw [List.map_map]; rfl
  rw [h2, this]
 ·intro j hj
  have := List.mem_range.mp hj
  lia
 ·intro s' at' kp ht hs
  refine cont s' ?_ kp ht hs
  have : ((List.range olds.length).zip objs').map (fun p => (Eu olds olds.length (N + 884) p.1, p.2)) = olds.zip objs' := by
   have h1 : ((List.range olds.length).zip objs').map (fun p => (Eu olds olds.length (N + 884) p.1, p.2)) = ((List.range olds.length).map (Eu olds olds.length (N + 884))).zip objs' := by
    rw [List.zip_map_left]
    rfl
   rw [h1, Rx]
  rw [<- this]
  exact at'
theorem Am {txt : Str} {p v : Nat} (h : txt.cps[p]? = some v) (h2 : 2 <= txt.length) {lo hi : Int} (hl : lo = p) (hh : hi = p + 1) : Ba txt lo hi ⟨#[v]⟩ := by
 subst hl hh
 have hp : p < txt.cps.size := (Array.getElem?_eq_some_iff.mp h).1
 have e := _root_.PySem.StrLaws.strSliceIndices_plain (a := p) (b := p + 1) (len := txt.length) (by lia) hp
 have e' : Builtin.Str.strSliceIndices (some (p : Int)) (some ((p : Int) + 1)) 1 txt.length = [p] := by
  have : ((p : Int) + 1) = ((p + 1 : Nat) : Int) := by push_cast; rfl
  rw [this, e]
  simp
 refine ⟨?_, ?_, ?_⟩
 ·rw [e']; simp; lia
 ·rw [e']; simp [h]
 ·show 1 <= sizeLine; decide
theorem Zr {txt : Str} {p : Nat} (h : p = txt.length) (h2 : 1 <= txt.length) {lo hi : Int} (hl : lo = p) (hh : hi = p + 1) : Ba txt lo hi ⟨#[]⟩ := by
 subst hl hh
 have e' : Builtin.Str.strSliceIndices (some (p : Int)) (some ((p : Int) + 1)) 1 txt.length = [] := by
  have e := _root_.PySem.StrLaws.strSliceIndices_plain (a := p) (b := p) (len := txt.length) (by lia) (by lia)
  have : Builtin.Str.strSliceIndices (some (p : Int)) (some ((p : Int) + 1)) 1 txt.length = Builtin.Str.strSliceIndices (some (p : Int)) (some (p : Int)) 1 txt.length := by
   unfold Builtin.Str.strSliceIndices
   have a1 : min ((p : Int) + 1) (txt.length : Int) = min (p : Int) (txt.length : Int) := by lia
   have n1 : ¬ ((p : Int) + 1 < 0) := by lia
   have n2 : ¬ ((p : Int) < 0) := by lia
   simp only [n1, n2, if_false, a1, show ((1 : Int) > 0) = True from by simp, if_true]
  rw [this, e]
  simp
 refine ⟨?_, ?_, ?_⟩
 ·rw [e']; simp; lia
 ·rw [e']; rfl
 ·show 0 <= sizeLine; decide
theorem B0 {txt : Str} {pre rest : List Nat} {v : Nat} (h : txt.cps.toList = pre ++ v :: rest) : txt.cps[pre.length]? = some v := by
 rw [<- Array.getElem?_toList, h]
 simp
theorem Dh {v u : Nat} (h : v ≠ u) : Bo ⟨#[v]⟩ ⟨#[u]⟩ = false := by
 unfold Bo
 simpa using h
theorem I4 {v u : Nat} (h : v = u) : Bo ⟨#[v]⟩ ⟨#[u]⟩ = true := by
 unfold Bo
 simpa using h
theorem Nk {v : Nat} : Bo ⟨#[]⟩ ⟨#[v]⟩ = false := by
 unfold Bo
 rfl
theorem in1 (s : Str) (v : Nat) : Cj s ⟨#[v]⟩ = decide (v ∈ s.cps.toList) := StrLaws.found_one s v
theorem Dm {s : Str} {v : Nat} (h : v ∉ s.cps.toList) : Cj s ⟨#[v]⟩ = false := by
 rw [in1]; exact decide_eq_false h
theorem Lk {s : Str} {v : Nat} (h : v ∈ s.cps.toList) : Cj s ⟨#[v]⟩ = true := by
 rw [in1]; exact decide_eq_true h
theorem At.N {w : World} {L : List (Nat × Obj)} (H : At w s L) : ∃ N, s.heap.objs.size = N + 884 := ⟨_, (Nat.sub_add_cancel H.size).symm⟩
theorem At.T {w : World} {L : List (Nat × Obj)} (H : At w s L) : ∃ tk, s.toks = tk + 1573 := ⟨_, (Nat.sub_add_cancel H.toks).symm⟩
theorem At.NT {w : World} {L : List (Nat × Obj)} (H : At w s L) : ∃ N tk, s.heap.objs.size = N + 884 /\ s.toks = tk + 1573 := ⟨_, _, (Nat.sub_add_cancel H.size).symm, (Nat.sub_add_cancel H.toks).symm⟩
noncomputable abbrev Hj := PySem.W.Fast.tw12563942051412417395
noncomputable abbrev Ks := PySem.W.Fast.tw14044960220447912780
noncomputable abbrev Ma := PySem.W.Fast.tw15418851999007992765
noncomputable abbrev Mm := PySem.W.Fast.tw9404975358583537561
noncomputable abbrev Go := PySem.W.Fast.tw17772580674575903948
theorem Nz : @PySem.execs = Hj := PySem.W.Fast.te12563942051412417395
theorem R1 : @PySem.eval = Ks := PySem.W.Fast.te14044960220447912780
theorem S7 : @PySem.isTrue = Ma := PySem.W.Fast.te15418851999007992765
theorem S1 : @PySem.pyNext = Mm := PySem.W.Fast.te9404975358583537561
theorem Ly : @PySem.assign = Go := PySem.W.Fast.te17772580674575903948
noncomputable def RV (Q : Value -> Shared -> Prop) : Result -> Shared -> Prop := fun r s => match r with
 | .ok (.ret v) => Q v s
 | _ => False
noncomputable def RF (Q : Flow -> Shared -> Prop) : Result -> Shared -> Prop := fun r s => match r with
 | .ok f => Q f s
 | .error _ => False
noncomputable def RB (Q : Bool -> Shared -> Prop) : Result -> Shared -> Prop := fun r s => match r with
 | .ok (.ret (.bool b)) => Q b s
 | _ => False
noncomputable def RU (Q : Unit -> Shared -> Prop) : Result -> Shared -> Prop := fun r s => match r with
 | .ok .next => Q () s
 | _ => False
noncomputable def RO (Q : Option Value -> Shared -> Prop) : Result -> Shared -> Prop := fun r s => match r with
 | .ok (.ret v) => Q (some v) s
 | .ok .brk => Q none s
 | _ => False
section
variable {w : World} {A : Around} {c : Code} {s : Shared} {E : Value -> Shared -> Prop}
theorem F6 {α : Type} {t : Sem α} {f : α -> Flow} {Q : α -> Shared -> Prop} (hR : ∀ a s', R (.ok (f a)) s' -> Q a s') (hE : ∀ e s', R (.error e) s' -> False)
  (h : MK w A R c .base (PySem.W.R.bindR t fun a => .pure (.done (f a))) s) : wpOwn (Ak w) A c t Q E s := by
 intro Γ p hc hB
 have h0 := h Γ p hc hB
 rw [<- PySem.W.R.bindR_eq] at h0
 have h1 : Sem.wp (Ak w) Γ (t >>= fun a => (.pure (.done (f a)) : Sem Fin)) _ _ p s := h0
 rw [Sem.wp_bind'] at h1
 exact Sem.wp_mono _ _ _ (fun a p' s' h' => hR a s' h') (fun e p' s' h' => (hE e s' h').elim) _ _ h1
theorem Br {t : Sem Value} {Q : Value -> Shared -> Prop} (h : MK w A (RV Q) c .base (PySem.W.R.bindR t fun v => .pure (.done (.ret v))) s) : wpOwn (Ak w) A c t Q E s :=
 F6 (f := fun v => .ret v) (fun _ _ h => h) (fun _ _ h => h) h
theorem Bj {t : Sem Flow} {Q : Flow -> Shared -> Prop} (h : MK w A (RF Q) c .base (PySem.W.R.bindR t fun f => .pure (.done f)) s) : wpOwn (Ak w) A c t Q E s :=
 F6 (f := fun f => f) (fun _ _ h => h) (fun _ _ h => h) h
theorem Bs {t : Sem Bool} {Q : Bool -> Shared -> Prop} (h : MK w A (RB Q) c .base (PySem.W.R.bindR t fun b => .pure (.done (.ret (.bool b)))) s) : wpOwn (Ak w) A c t Q E s :=
 F6 (f := fun b => .ret (.bool b)) (fun _ _ h => h) (fun _ _ h => h) h
theorem By {t : Sem Unit} {Q : Unit -> Shared -> Prop} (h : MK w A (RU Q) c .base (PySem.W.R.bindR t fun _ => .pure (.done .next)) s) : wpOwn (Ak w) A c t Q E s :=
 F6 (f := fun _ => .next) (fun _ _ h => h) (fun _ _ h => h) h
noncomputable def Vx : Option Value -> Flow
 | some v => .ret v
 | none => .brk
theorem Qt {t : Sem (Option Value)} {Q : Option Value -> Shared -> Prop} (h : MK w A (RO Q) c .base (PySem.W.R.bindR t fun o => .pure (.done (Vx o))) s) : wpOwn (Ak w) A c t Q E s :=
 F6 (f := Vx) (fun o s' h => by cases o <;> exact h) (fun _ _ h => h) h
noncomputable def RE (Q : Flow -> Shared -> Prop) (E : Value -> Shared -> Prop) : Result -> Shared -> Prop := fun r s => match r with
 | .ok f => Q f s
 | .error e => E e s
theorem Rz {t : Sem Flow} {Q : Flow -> Shared -> Prop} (h : MK w A (RE Q E) c .base (PySem.W.R.bindR t fun f => .pure (.done f)) s) : wpOwn (Ak w) A c t Q E s := by
 intro Γ p hc hB
 have h0 := h Γ p hc hB
 rw [<- PySem.W.R.bindR_eq] at h0
 have h1 : Sem.wp (Ak w) Γ (t >>= fun a => (.pure (.done a) : Sem Fin)) _ _ p s := h0
 rw [Sem.wp_bind'] at h1
 exact Sem.wp_mono _ _ _ (fun a p' s' h' => h') (fun e p' s' h' => h') _ _ h1
theorem Bm {b : List Stmt} {env : Env} {Q : Flow -> Shared -> Prop} (h : wpOwn (Ak w) A c (Hj b env) Q E s) : wpOwn (Ak w) A c (PySem.execs b env) Q E s := by rw [Nz]; exact h
theorem Bf {b : Expr} {env : Env} {Q : Value -> Shared -> Prop} (h : wpOwn (Ak w) A c (Ks b env) Q E s) : wpOwn (Ak w) A c (PySem.eval b env) Q E s := by rw [R1]; exact h
theorem Jd {b : Value} {Q : Option Value -> Shared -> Prop} (h : wpOwn (Ak w) A c (Mm b) Q E s) : wpOwn (Ak w) A c (PySem.pyNext b) Q E s := by rw [S1]; exact h
theorem Bp {e : Expr} {env : Env} {v : Value} {Q : Unit -> Shared -> Prop} (h : wpOwn (Ak w) A c (Go e env v) Q E s) : wpOwn (Ak w) A c (PySem.assign e env v) Q E s := by rw [Ly]; exact h
theorem B8 {e : Expr} {env : Env} {Q : Bool -> Shared -> Prop} (h : wpOwn (Ak w) A c (Ma e env (Ks e env)) Q E s) : wpOwn (Ak w) A c (PySem.isTrue e env (PySem.eval e env)) Q E s := by rw [S7, R1]; exact h
theorem Cr {α : Type} {t : Sem α} {Q : α -> Shared -> Prop} (h : wpAny (Ak w) (A.under c) t Q E s) : wpOwn (Ak w) A c t Q E s := wpOwn_of_wpAny h
theorem Cf {α : Type} {m : Sem α} {k : Value -> Sem Unit} {Q : α -> Shared -> Prop} (h : wpOwn (Ak w) A c m Q (fun e s' => wpOwn (Ak w) A c (k e) (fun _ s'' => E e s'') E s') s) : wpOwn (Ak w) A c (m.onRaise k) Q E s := by
 intro Γ p hc hB
 rw [Sem.wp_onRaise]
 exact Sem.wp_mono _ _ _ (fun _ _ _ h => h) (fun e p' s' h' => h' Γ p' hc hB) _ _ (h Γ p hc hB)
theorem An {α : Type} {a : α} {Q : α -> Shared -> Prop} (h : Q a s) : wpOwn (Ak w) A c (pure a) Q E s := fun _ _ _ _ => h
theorem Ce {α : Type} {vs : List Value} {m : Sem α} {Q : α -> Shared -> Prop} (h : wpOwn (Ak w) A c m Q E s) : wpOwn (Ak w) A c (holding vs m) Q E s := by
 intro Γ p hc hB
 rw [Sem.wp_holding]
 exact h Γ p hc hB
theorem Dx {p : Pos} {Q : Unit -> Shared -> Prop} (h : Q () s) : wpOwn (Ak w) A c (standAt p) Q E s := fun _ _ _ _ => h
theorem El {vs : List Value} {m : Sem Value} {Q : Value -> Shared -> Prop} (h : wpOwn (Ak w) A c m Q E s) : wpOwn (Ak w) A c (operate vs m) Q E s :=
 wpOwn_bind (Ce (wpOwn_mono h (fun v s' h' => wpOwn_bind (Cr (wpAny_release (An h')))) fun _ _ h => h))
theorem B4 {st : Stmt} {rest : List Stmt} {env : Env} {Q : Flow -> Shared -> Prop}
  (h : wpOwn (Ak w) A c (PySem.exec st env) (fun f s' => match f with | .next => wpOwn (Ak w) A c (PySem.execs rest env) Q E s' | f => Q f s') E s) : wpOwn (Ak w) A c (PySem.execs (st :: rest) env) Q E s := by
 show wpOwn (Ak w) A c (PySem.exec st env >>= fun f => match f with | .next => PySem.execs rest env | f => pure f) Q E s
 refine wpOwn_bind (wpOwn_mono h (fun f s' h' => ?_) fun _ _ h => h)
 cases f <;> first | exact h' | exact An h'
theorem Aw {env : Env} {Q : Flow -> Shared -> Prop} (h : Q .next s) : wpOwn (Ak w) A c (PySem.execs [] env) Q E s := An h
theorem Fy {M : Model} {Γ : Ctx} {E : Value -> Pos -> Shared -> Prop} {env : Env} {Q : Flow -> Pos -> Shared -> Prop} {b : List Stmt} : ∀ {a : List Stmt} {p : Pos} {s : Shared},
  Sem.wp M Γ (PySem.execs a env) (fun f p' s' => match f with | .next => Sem.wp M Γ (PySem.execs b env) Q E p' s' | f => Q f p' s') E p s -> Sem.wp M Γ (PySem.execs (a ++ b) env) Q E p s
 | [], p, s, h => h
 | st :: a, p, s, h => by
  show Sem.wp M Γ (PySem.exec st env >>= fun f => match f with | .next => PySem.execs (a ++ b) env | f => pure f) _ _ p s
  have h1 : Sem.wp M Γ (PySem.exec st env >>= fun f => match f with | .next => PySem.execs a env | f => pure f) _ _ p s := h
  rw [Sem.wp_bind'] at h1 ⊢
  refine Sem.wp_mono _ _ _ (fun f p' s' h' => ?_) (fun _ _ _ h => h) _ _ h1
  cases f with
  | next => exact Fy h'
  | _ => exact h'
theorem Bn {env : Env} {Q : Flow -> Shared -> Prop} {a b : List Stmt}
  (h : wpOwn (Ak w) A c (PySem.execs a env) (fun f s' => match f with | .next => wpOwn (Ak w) A c (PySem.execs b env) Q E s' | f => Q f s') E s) : wpOwn (Ak w) A c (PySem.execs (a ++ b) env) Q E s := by
 intro Γ p hc hB
 refine Fy (Sem.wp_mono _ _ _ (fun f p' s' h' => ?_) (fun _ _ _ h => h) _ _ (h Γ p hc hB))
 cases f with
 | next => exact h' Γ p' hc hB
 | _ => exact h'
theorem Fk {id : String} {args : Args} {b : Builtin} (hb : entryFor table id = some b)
  (h : wpOwn (Ak w) A (.builtin id args) (b args) (postC pw w A R) (postE R) s) : codeAny (Ak w) A (.builtin id args) R s := by
 refine y_code _ _ _ _ _ _ ?_
 show wpOwn _ _ _ (match entryFor table id with | some b => b args | none => unsupported ((withoutEnding? id "#data").getD id)) _ _ s
 rw [hb]; exact h
theorem At.upd {w : World} {a : Nat} {o : Obj} {L : List (Nat × Obj)} (H : At w s ((a, o) :: L)) {f : Obj -> Obj} (hf : (f o).isFreed = false) :
  At w { s with heap := s.heap.update a f } ((a, f o) :: L) /\ Keeps [a] s { s with heap := s.heap.update a f } := by
 have ha := H.own _ (.head _)
 have sb : Heap.SameBut a s.heap (s.heap.update a f) := Heap.SameBut.update ..
 have hi := H.hi _ (.head _)
 dsimp only at hi ha
 have nd : (a :: L.map (·.1)).Nodup := H.nd
 refine ⟨⟨H.gens, fun b o' hb => ⟨(sb.2 b (fun e => by
   have h9 : b < 884 := (H.top b o' hb).2
   have n9 := Hv hb
   have e9 : b = a := e
   rw [e9] at h9 n9
   rcases hi with h | h | h
   ·exact absurd h9 (Nat.not_lt.mpr h)
   ·exact n9.1 h
   ·exact n9.2 h)).trans (H.top b o' hb).1, (H.top b o' hb).2⟩, ?_, H.toks, ?_, nd, ?_⟩, ⟨fun b o' h1 h2 => (sb.2 b (fun e => h2 (by simp [e]))).trans h1, ?_, rfl, rfl⟩⟩
 ·show 884 <= (s.heap.update a f).objs.size
  rw [sb.1]; exact H.size
 ·intro p hp
  rcases List.mem_cons.mp hp with rfl | hp
  ·exact Heap.get?_update_self f ha hf
  ·exact (sb.2 _ (fun e => (List.nodup_cons.mp nd).1 (e ▸ List.mem_map_of_mem hp))).trans (H.own p (.tail _ hp))
 ·intro p hp
  rcases List.mem_cons.mp hp with rfl | hp
  ·exact hi
  ·exact H.hi p (.tail _ hp)
 ·show s.heap.objs.size <= (s.heap.update a f).objs.size
  rw [sb.1]; exact Nat.le_refl _
theorem Lz {b : List Stmt} {env : Env}
  (h : wpOwn (Ak w) A (.func b env) (PySem.execs b env) (fun f s' => match f with | .ret v => R (.ok (.ret v)) s' | _ => R (.ok (.ret .none)) s') (fun e s' => wpOwn (Ak w) A (.func b env) (leaving env e) (fun _ s'' => R (.error e) s'') (fun e' s'' => R (.error e') s'') s') s) :
  codeAny (Ak w) A (.func b env) R s := by
 refine y_code _ _ _ _ _ _ ?_
 show wpOwn (Ak w) A (.func b env) (point >>= fun _ => ((PySem.execs b env).onRaise (leaving env)) >>= fun f => match f with | .ret v => ret v | _ => ret .none) _ _ s
 refine wpOwn_bind (Cr (wpAny_point (wpOwn_bind ?_)))
 have key : wpOwn (Ak w) A (.func b env) ((PySem.execs b env).onRaise (leaving env)) (fun f s' => match f with | .ret v => R (.ok (.ret v)) s' | _ => R (.ok (.ret .none)) s') (postE R) s := by
  intro Γ p hc hB
  rw [Sem.wp_onRaise]
  exact Sem.wp_mono _ _ _ (fun _ _ _ h => h) (fun e p' s' h' => h' Γ p' hc hB) _ _ (h Γ p hc hB)
 refine wpOwn_mono key (fun f s' h' => ?_) fun _ _ h => h
 cases f <;> exact An h'
theorem Dr {target : Expr} {it : Value} {body orelse : List Stmt} {env : Env}
  (h : wpOwn (Ak w) A (.forLoop target it body orelse env) (pyNext it) (fun o s' => match o with
   | none => codeAny (Ak w) A (.block orelse env) R s'
   | some v => wpOwn (Ak w) A (.forLoop target it body orelse env) (letOwnedTupleGo target it v) (fun _ s1 => wpOwn (Ak w) A (.forLoop target it body orelse env) (assign target env v) (fun _ s2 =>
     wpOwn (Ak w) A (.forLoop target it body orelse env) (PySem.execs body env) (fun f s3 => match f with
      | .next | .cont => codeAny (Ak w) A (.forLoop target it body orelse env) R s3
      | .brk => R (.ok .next) s3
      | .ret v => R (.ok (.ret v)) s3) (fun _ _ => False) s2) (fun _ _ => False) s1) (fun _ _ => False) s') (fun _ _ => False) s) :
  codeAny (Ak w) A (.forLoop target it body orelse env) R s := by
 refine y_code _ _ _ _ _ _ ?_
 have key : wpOwn (Ak w) A (.forLoop target it body orelse env) (forTurn target it body orelse env) (postC pw w A R) (fun _ _ => False) s := by
  show wpOwn (Ak w) A _ (standAt target.pos >>= fun _ => ((pyNext it).onRaise fun _ => standAt { target.pos with line := 0 }) >>= fun o => match o with
   | none => again (.block orelse env)
   | some v => letOwnedTupleGo target it v >>= fun _ => assign target env v >>= fun _ => PySem.execs body env >>= fun f => match f with
    | .next | .cont => again (.forLoop target it body orelse env)
    | .brk => pure (.done .next)
    | .ret v => pure (.done (.ret v))) _ _ s
  refine wpOwn_bind (Dx (wpOwn_bind ?_))
  refine Cf (wpOwn_mono h (fun o s' h' => ?_) fun _ _ h => h.elim)
  cases o with
  | none => exact An ⟨rfl, h'⟩
  | some v =>
   refine wpOwn_bind (wpOwn_mono h' (fun _ s1 h1 => ?_) fun _ _ h => h.elim)
   refine wpOwn_bind (wpOwn_mono h1 (fun _ s2 h2 => ?_) fun _ _ h => h.elim)
   refine wpOwn_bind (wpOwn_mono h2 (fun f s3 h3 => ?_) fun _ _ h => h.elim)
   cases f with
   | next => exact An ⟨rfl, h3⟩
   | cont => exact An ⟨rfl, h3⟩
   | brk => exact An h3
   | ret v => exact An h3
 show wpOwn (Ak w) A (.forLoop target it body orelse env) ((forTurn target it body orelse env).onRaise _) _ _ s
 exact Cf (wpOwn_mono key (fun _ _ h => h) fun _ _ h => h.elim)
noncomputable def I6 (target : Expr) (it v : Value) (body : List Stmt) (env : Env) : Sem Flow :=
 PySem.W.R.bindR (PySem.W.Fast.tw1578499551869305889 target it v) fun _ => PySem.W.R.bindR (Go target env v) fun _ => Hj body env
theorem Fb {target : Expr} {it : Value} {body orelse : List Stmt} {env : Env}
  (h : wpOwn (Ak w) A (.forLoop target it body orelse env) (pyNext it) (fun o s' => match o with
   | none => codeAny (Ak w) A (.block orelse env) R s'
   | some v => wpOwn (Ak w) A (.forLoop target it body orelse env) (I6 target it v body env) (fun f s3 => match f with
      | .next | .cont => codeAny (Ak w) A (.forLoop target it body orelse env) R s3
      | .brk => R (.ok .next) s3
      | .ret v => R (.ok (.ret v)) s3) (fun _ _ => False) s') (fun _ _ => False) s) :
  codeAny (Ak w) A (.forLoop target it body orelse env) R s := by
 refine y_code _ _ _ _ _ _ ?_
 have key : wpOwn (Ak w) A (.forLoop target it body orelse env) (forTurn target it body orelse env) (postC pw w A R) (fun _ _ => False) s := by
  show wpOwn (Ak w) A _ (standAt target.pos >>= fun _ => ((pyNext it).onRaise fun _ => standAt { target.pos with line := 0 }) >>= fun o => match o with
   | none => again (.block orelse env)
   | some v => letOwnedTupleGo target it v >>= fun _ => assign target env v >>= fun _ => PySem.execs body env >>= fun f => match f with
    | .next | .cont => again (.forLoop target it body orelse env)
    | .brk => pure (.done .next)
    | .ret v => pure (.done (.ret v))) _ _ s
  refine wpOwn_bind (Dx (wpOwn_bind ?_))
  refine Cf (wpOwn_mono h (fun o s' h' => ?_) fun _ _ h => h.elim)
  cases o with
  | none => exact An ⟨rfl, h'⟩
  | some v =>
   intro Γ p hc hB
   have h0 := h' Γ p hc hB
   unfold I6 at h0
   rw [<- Ly, <- Nz, <- PySem.W.R.bindR_eq, <- PySem.W.Fast.te1578499551869305889] at h0
   have h1 : Sem.wp (Ak w) Γ (letOwnedTupleGo target it v >>= fun _ => assign target env v >>= fun _ => PySem.execs body env) _ _ p s' := h0
   simp only [Sem.wp_bind'] at h1 ⊢
   refine Sem.wp_mono _ _ _ (fun _ p1 s1 g1 => ?_) (fun _ _ _ g => g) _ _ h1
   refine Sem.wp_mono _ _ _ (fun _ p2 s2 g2 => ?_) (fun _ _ _ g => g) _ _ g1
   refine Sem.wp_mono _ _ _ (fun f p3 s3 g3 => ?_) (fun _ _ _ g => g) _ _ g2
   cases f with
   | next => exact ⟨rfl, g3⟩
   | cont => exact ⟨rfl, g3⟩
   | brk => exact g3
   | ret v => exact g3
 show wpOwn (Ak w) A (.forLoop target it body orelse env) ((forTurn target it body orelse env).onRaise _) _ _ s
 exact Cf (wpOwn_mono key (fun _ _ h => h) fun _ _ h => h.elim)
end
noncomputable def A9 (xs : List Value) (n : Nat) : Obj := ⟨.type "list", none, .seq (Array.mk xs) n, #[]⟩
noncomputable abbrev gI (w : World) (a : Nat) (i : Int) (t T S : Nat) (xs : List Value) (n : Nat) (v : Value) : Prop := Ac pw w (.call (.builtin "list.__getitem__") ⟨[.ref a, .int i t], []⟩) T S [(a, A9 xs n)] [] [] v 0
theorem Lv {h : Heap} {a : Nat} {o : Obj} (e : h.get? a = some o) (f : Obj -> Obj) : h.update a f = h.update a (fun _ => f o) := by
 obtain ⟨e1, e2⟩ := Heap.get?_some_iff.mp e
 obtain ⟨objs, l⟩ := h
 have e1 : objs[a]? = some o := e1
 show (⟨objs.modify a f, l⟩ : Heap) = ⟨objs.modify a (fun _ => f o), l⟩
 congr 1
 apply Array.ext_getElem?
 intro i
 rw [Array.getElem?_modify, Array.getElem?_modify]
 by_cases hi : a = i
 ·subst hi
  rw [if_pos rfl, if_pos rfl, e1]
  rfl
 ·rw [if_neg hi, if_neg hi]
theorem U0 (xs : List Value) (v : Value) (n : Nat) : Obj.mapSeq (fun a => a.push v) (A9 xs n) = A9 (xs ++ [v]) (n + 1) := by
 show (⟨_, _, .seq (Array.push (Array.mk xs) v) (if (Array.push (Array.mk xs) v).size == (Array.mk xs).size then n else n + 1), _⟩ : Obj) = _
 have h : ((Array.push (Array.mk xs) v).size == (Array.mk xs).size) = false := by simp
 rw [h]
 show (⟨_, _, .seq (Array.push (Array.mk xs) v) (n + 1), _⟩ : Obj) = _
 have : Array.push (Array.mk xs) v = Array.mk (xs ++ [v]) := by simp
 rw [this]
 rfl
theorem Fv {w : World} {a tok sz : Nat} {xs : List Value} {v : Value} {n : Nat} (h : xs.length <= 4000) :
  Ac pw w (.call (.builtin "list.append") ⟨[.ref a, v], []⟩) tok sz [(a, A9 xs n)] [(a, A9 (xs ++ [v]) (n + 1))] [] .none 0 := by
 intro A s R hA hD hg ht hn hrd hR
 have hs : sizeLine = 16777216 := rfl
 refine codeAny_call_builtin _root_.PySem.F.slot_list_append.plain _root_.PySem.F.entry_list_append (_root_.PySem.F.slot_list_append.check _ _ _ _ _ _ _ _ ⟨_, hrd.1, rfl⟩ (_root_.PySem.F.args_list_append_2 _ _) (list_append a (Array.mk xs) n v (by show xs.length <= _; lia) _ w A R s ⟨hrd.1, ?_⟩))
 rw [Lv hrd.1, U0]
 subst ht
 exact hR
section
variable (U : Fl) (x : NL) (g : GT) (txt : Str) (p : Int) (tp : Nat) (ln : Int) (tl : Nat) (tok : Str) (tt : Nat) (chv : Value) (tch : Nat) (hch : Int) (c c2 N tk : Nat)
noncomputable abbrev Hx1 : Nat := (x2 0x2202022111c01140140180504400040000411114022e40eee0ff84f0c0c0cccb00c0c0cccbaccc0c0cc00c0c0ccb000ff0ff913f8766606066665044000400004e00ee0130032202020)
theorem He : (Ev 400 U.W (g.addrs ++ x.addrs) 13 N tk [.s ⟨#[c+1]⟩] (g.objs x (A0 (g.ents x (.str ⟨#[]⟩ tt)) 3) ++ x.objs U.P txt p tp ln tl) 254
  Hx1
  (Ae U.P g (Ad U.P)) .base (.pure (.again (Ae U.P g (Ad U.P))))
  [0, 1, 2, 3, 4, 5, 6, 7, 8, 9, 10, 11, 12] (.call (Ae U.P g (D2 U.P)) 1) ((g.objs x (A0 (g.ents x (.str ⟨#[c+1]⟩ (tk+1585)) ++ [Bg (PyData.keyHash U.P ⟨#[99, 104]⟩) (tk+1588) (.str ⟨#[c+1]⟩ (tk+1585))]) 4) ++ x.objs U.P txt (p+1) (tk+1580) ln tl).map some) 3 20
  [(⟨#[]⟩ : Str).length = 0, Bo ⟨#[c+1]⟩ ⟨#[92]⟩ = false, Bo ⟨#[c+1]⟩ ⟨#[34]⟩ = false, Cj ⟨#[10, 9, 13, 32]⟩ ⟨#[c+1]⟩ = false, Bo ⟨#[]⟩ ⟨#[c+1]⟩ = false, Bo ⟨#[c+1]⟩ ⟨#[10]⟩ = false, Ba txt (p+1-1) (p+1) ⟨#[c+1]⟩]) /\ ∀ (M K : Nat) (tok' : Str) (tt' : Nat), Ev 400 U.W [] 0 M K [] [] 40 0 (Ay 400 U.W (g.addrs ++ x.addrs) 13 N tk [.s ⟨#[c+1]⟩] (g.objs x (A0 (g.ents x (.str ⟨#[]⟩ tt)) 3) ++ x.objs U.P txt p tp ln tl) 254     Hx1     (Ae U.P g (Ad U.P)) .base (.pure (.again (Ae U.P g (Ad U.P))))).c (Ay 400 U.W (g.addrs ++ x.addrs) 13 N tk [.s ⟨#[c+1]⟩] (g.objs x (A0 (g.ents x (.str ⟨#[]⟩ tt)) 3) ++ x.objs U.P txt p tp ln tl) 254     Hx1     (Ae U.P g (Ad U.P)) .base (.pure (.again (Ae U.P g (Ad U.P))))).κ (Cb (Ay 400 U.W (g.addrs ++ x.addrs) 13 N tk [.s ⟨#[c+1]⟩] (g.objs x (A0 (g.ents x (.str ⟨#[]⟩ tt)) 3) ++ x.objs U.P txt p tp ln tl) 254     Hx1     (Ae U.P g (Ad U.P)) .base (.pure (.again (Ae U.P g (Ad U.P))))).t (.ok (.ret (.str tok' tt')))) [] (.fin (.ret (.str tok' tt'))) [] 0 0 [] := by
 obtain ⟨b, _⟩ := U; cases b <;> exact ⟨by kernel_rfl, fun _ _ _ _ => by kernel_rfl⟩
theorem Of : Ev 400 U.W (g.addrs ++ x.addrs) 13 N tk [.s ⟨#[c+1]⟩] (g.objs x (A0 (g.ents x (.str tok tt) ++ [Bg hch tch chv]) 4) ++ x.objs U.P txt p tp ln tl) 234
  (x2 0x211e01140180504400040000411114022e40eee0ff84f0c0c0cccb00c0c0cccbaccc0c0cc00c0c0ccb000ff0ff913f8766606066665044000400004e00ee0130032202020)
  (Ae U.P g (D2 U.P)) .base (.pure (.again (Ae U.P g (D2 U.P))))
  [0, 1, 2, 3, 4, 5, 6, 7, 8, 9, 10, 11, 12] (.again (Ae U.P g (D2 U.P))) ((g.objs x (A0 (g.ents x (.str (tok ++ ⟨#[c+1]⟩) (tk+1591)) ++ [Bg hch tch (.str ⟨#[c+1]⟩ (tk+1585))]) 4) ++ x.objs U.P txt (p+1) (tk+1580) ln tl).map some) 3 20
  [(tok : Str).length ≠ 0, (⟨#[c+1]⟩ : Str).length ≠ 0, (tok ++ ⟨#[c+1]⟩ : Str).length <= sizeLine, Bo ⟨#[c+1]⟩ ⟨#[92]⟩ = false, Cj ⟨#[10, 9, 13, 32]⟩ ⟨#[c+1]⟩ = false, Bo ⟨#[]⟩ ⟨#[c+1]⟩ = false, Bo ⟨#[c+1]⟩ ⟨#[10]⟩ = false, Ba txt (p+1-1) (p+1) ⟨#[c+1]⟩] := by
 obtain ⟨b, _⟩ := U; cases b <;> kernel_rfl
theorem Ny : Ev 400 U.W (g.addrs ++ x.addrs) 13 N tk [.s ⟨#[c+1]⟩] (g.objs x (A0 (g.ents x (.str tok tt) ++ [Bg hch tch chv]) 4) ++ x.objs U.P txt p tp ln tl) 214
  (x2 0x1a0504400040000411114022e40eee0ff84f0c0c0cccb00c0c0cccbaccc0c0cc00c0c0ccb000ff0ff913f8766606066665044000400004e00ee0130032202020)
  (Ae U.P g (D2 U.P)) .base (.pure (.again (Ae U.P g (D2 U.P))))
  [0, 1, 2, 3, 4, 5, 6, 7, 8, 9, 10, 11, 12] (.fin (.ret (.str tok tt))) ((g.objs x (A0 (g.ents x (.str tok tt) ++ [Bg hch tch (.str ⟨#[c+1]⟩ (tk+1585))]) 4) ++ x.objs U.P txt (p+1) (tk+1580) ln tl).map some) 3 17
  [Cj ⟨#[10, 9, 13, 32]⟩ ⟨#[c+1]⟩ = true, Bo ⟨#[]⟩ ⟨#[c+1]⟩ = false, Bo ⟨#[c+1]⟩ ⟨#[10]⟩ = false, Ba txt (p+1-1) (p+1) ⟨#[c+1]⟩] := by
 obtain ⟨b, _⟩ := U; cases b <;> kernel_rfl
noncomputable abbrev Hx2 : Nat := (x2 0x2202022160180504400040000411114022e40eee0ff84f0c0c0cccb00c0c0cccbaccc0c0cc00c0c0ccb000ff0ff913f8766606066665044000400004e00ee0130032202020)
theorem Gz : (Ev 400 U.W (g.addrs ++ x.addrs) 13 N tk [.s ⟨#[c+1]⟩] (g.objs x (A0 (g.ents x (.str ⟨#[]⟩ tt)) 3) ++ x.objs U.P txt p tp ln tl) 231
  Hx2
  (Ae U.P g (Ad U.P)) .base (.pure (.again (Ae U.P g (Ad U.P))))
  [0, 1, 2, 3, 4, 5, 6, 7, 8, 9, 10, 11, 12] (.call (Ae U.P g (Cn U.P)) 1) ((g.objs x (A0 (g.ents x (.str ⟨#[]⟩ tt) ++ [Bg (PyData.keyHash U.P ⟨#[99, 104]⟩) (tk+1588) (.str ⟨#[c+1]⟩ (tk+1585))]) 4) ++ x.objs U.P txt (p+1) (tk+1580) ln tl).map some) 3 18
  [Bo ⟨#[c+1]⟩ ⟨#[34]⟩ = true, Cj ⟨#[10, 9, 13, 32]⟩ ⟨#[c+1]⟩ = false, Bo ⟨#[]⟩ ⟨#[c+1]⟩ = false, Bo ⟨#[c+1]⟩ ⟨#[10]⟩ = false, Ba txt (p+1-1) (p+1) ⟨#[c+1]⟩]) /\ ∀ (M K : Nat) (tok' : Str) (tt' : Nat), Ev 400 U.W [] 0 M K [] [] 40 0 (Ay 400 U.W (g.addrs ++ x.addrs) 13 N tk [.s ⟨#[c+1]⟩] (g.objs x (A0 (g.ents x (.str ⟨#[]⟩ tt)) 3) ++ x.objs U.P txt p tp ln tl) 231     Hx2     (Ae U.P g (Ad U.P)) .base (.pure (.again (Ae U.P g (Ad U.P))))).c (Ay 400 U.W (g.addrs ++ x.addrs) 13 N tk [.s ⟨#[c+1]⟩] (g.objs x (A0 (g.ents x (.str ⟨#[]⟩ tt)) 3) ++ x.objs U.P txt p tp ln tl) 231     Hx2     (Ae U.P g (Ad U.P)) .base (.pure (.again (Ae U.P g (Ad U.P))))).κ (Cb (Ay 400 U.W (g.addrs ++ x.addrs) 13 N tk [.s ⟨#[c+1]⟩] (g.objs x (A0 (g.ents x (.str ⟨#[]⟩ tt)) 3) ++ x.objs U.P txt p tp ln tl) 231     Hx2     (Ae U.P g (Ad U.P)) .base (.pure (.again (Ae U.P g (Ad U.P))))).t (.ok (.ret (.str tok' tt')))) [] (.fin (.ret (.str tok' tt'))) [] 0 0 [] := by
 obtain ⟨b, _⟩ := U; cases b <;> exact ⟨by kernel_rfl, fun _ _ _ _ => by kernel_rfl⟩
theorem Oc : Ev 400 U.W (g.addrs ++ x.addrs) 13 N tk [.s ⟨#[c+1]⟩] (g.objs x (A0 (g.ents x (.str ⟨#[]⟩ tt) ++ [Bg hch tch chv]) 4) ++ x.objs U.P txt p tp ln tl) 217
  (x2 0x211c011401401114022e40eee0ff84f0c0c0cccb00c0c0cccbaccc0c0cc00c0c0ccb000ff0ff913f8766606066665044000400004e00ee0130032202020)
  (Ae U.P g (Cn U.P)) .base (.pure (.again (Ae U.P g (Cn U.P))))
  [0, 1, 2, 3, 4, 5, 6, 7, 8, 9, 10, 11, 12] (.again (Ae U.P g (Cn U.P))) ((g.objs x (A0 (g.ents x (.str ⟨#[c+1]⟩ (tk+1585)) ++ [Bg hch tch (.str ⟨#[c+1]⟩ (tk+1585))]) 4) ++ x.objs U.P txt (p+1) (tk+1580) ln tl).map some) 3 19
  [(⟨#[]⟩ : Str).length = 0, Bo ⟨#[c+1]⟩ ⟨#[92]⟩ = false, Bo ⟨#[c+1]⟩ ⟨#[34]⟩ = false, Bo ⟨#[]⟩ ⟨#[c+1]⟩ = false, Bo ⟨#[c+1]⟩ ⟨#[10]⟩ = false, Ba txt (p+1-1) (p+1) ⟨#[c+1]⟩] := by
 obtain ⟨b, _⟩ := U; cases b <;> kernel_rfl
theorem Oo : Ev 400 U.W (g.addrs ++ x.addrs) 13 N tk [.s ⟨#[c+1]⟩] (g.objs x (A0 (g.ents x (.str tok tt) ++ [Bg hch tch chv]) 4) ++ x.objs U.P txt p tp ln tl) 217
  (x2 0x211e011401401114022e40eee0ff84f0c0c0cccb00c0c0cccbaccc0c0cc00c0c0ccb000ff0ff913f8766606066665044000400004e00ee0130032202020)
  (Ae U.P g (Cn U.P)) .base (.pure (.again (Ae U.P g (Cn U.P))))
  [0, 1, 2, 3, 4, 5, 6, 7, 8, 9, 10, 11, 12] (.again (Ae U.P g (Cn U.P))) ((g.objs x (A0 (g.ents x (.str (tok ++ ⟨#[c+1]⟩) (tk+1591)) ++ [Bg hch tch (.str ⟨#[c+1]⟩ (tk+1585))]) 4) ++ x.objs U.P txt (p+1) (tk+1580) ln tl).map some) 3 20
  [(tok : Str).length ≠ 0, (⟨#[c+1]⟩ : Str).length ≠ 0, (tok ++ ⟨#[c+1]⟩ : Str).length <= sizeLine, Bo ⟨#[c+1]⟩ ⟨#[92]⟩ = false, Bo ⟨#[c+1]⟩ ⟨#[34]⟩ = false, Bo ⟨#[]⟩ ⟨#[c+1]⟩ = false, Bo ⟨#[c+1]⟩ ⟨#[10]⟩ = false, Ba txt (p+1-1) (p+1) ⟨#[c+1]⟩] := by
 obtain ⟨b, _⟩ := U; cases b <;> kernel_rfl
theorem Oa : Ev 400 U.W (g.addrs ++ x.addrs) 13 N tk [.s ⟨#[c+1]⟩] (g.objs x (A0 (g.ents x (.str tok tt) ++ [Bg hch tch chv]) 4) ++ x.objs U.P txt p tp ln tl) 197
  (x2 0x1601114022e40eee0ff84f0c0c0cccb00c0c0cccbaccc0c0cc00c0c0ccb000ff0ff913f8766606066665044000400004e00ee0130032202020)
  (Ae U.P g (Cn U.P)) .base (.pure (.again (Ae U.P g (Cn U.P))))
  [0, 1, 2, 3, 4, 5, 6, 7, 8, 9, 10, 11, 12] (.fin (.ret (.str tok tt))) ((g.objs x (A0 (g.ents x (.str tok tt) ++ [Bg hch tch (.str ⟨#[c+1]⟩ (tk+1585))]) 4) ++ x.objs U.P txt (p+1) (tk+1580) ln tl).map some) 3 17
  [Bo ⟨#[c+1]⟩ ⟨#[34]⟩ = true, Bo ⟨#[]⟩ ⟨#[c+1]⟩ = false, Bo ⟨#[c+1]⟩ ⟨#[10]⟩ = false, Ba txt (p+1-1) (p+1) ⟨#[c+1]⟩] := by
 obtain ⟨b, _⟩ := U; cases b <;> kernel_rfl
theorem Hc : Ev 400 U.W (g.addrs ++ x.addrs) 13 N tk [.s ⟨#[c+1]⟩] (g.objs x (A0 (g.ents x (.str ⟨#[]⟩ tt)) 3) ++ x.objs U.P txt p tp ln tl) 212
  (x2 0x2a0504400040000411114022e40eee0ff84f0c0c0cccb00c0c0cccbaccc0c0cc00c0c0ccb000ff0ff913f8766606066665044000400004e00ee0130032202020)
  (Ae U.P g (Ad U.P)) .base (.pure (.again (Ae U.P g (Ad U.P))))
  [0, 1, 2, 3, 4, 5, 6, 7, 8, 9, 10, 11, 12] (.again (Ae U.P g (Ad U.P))) ((g.objs x (A0 (g.ents x (.str ⟨#[]⟩ tt) ++ [Bg (PyData.keyHash U.P ⟨#[99, 104]⟩) (tk+1588) (.str ⟨#[c+1]⟩ (tk+1585))]) 4) ++ x.objs U.P txt (p+1) (tk+1580) ln tl).map some) 3 17
  [Cj ⟨#[10, 9, 13, 32]⟩ ⟨#[c+1]⟩ = true, Bo ⟨#[]⟩ ⟨#[c+1]⟩ = false, Bo ⟨#[c+1]⟩ ⟨#[10]⟩ = false, Ba txt (p+1-1) (p+1) ⟨#[c+1]⟩] := by
 obtain ⟨b, _⟩ := U; cases b <;> kernel_rfl
theorem Hf : (Ev 400 U.W (g.addrs ++ x.addrs) 13 N tk [.s ⟨#[c+1]⟩] (g.objs x (A0 (g.ents x (.str ⟨#[]⟩ tt) ++ [Bg hch tch chv]) 4) ++ x.objs U.P txt p tp ln tl) 254
  Hx1
  (Ae U.P g (Ad U.P)) .base (.pure (.again (Ae U.P g (Ad U.P))))
  [0, 1, 2, 3, 4, 5, 6, 7, 8, 9, 10, 11, 12] (.call (Ae U.P g (D2 U.P)) 1) ((g.objs x (A0 (g.ents x (.str ⟨#[c+1]⟩ (tk+1585)) ++ [Bg hch tch (.str ⟨#[c+1]⟩ (tk+1585))]) 4) ++ x.objs U.P txt (p+1) (tk+1580) ln tl).map some) 3 20
  [(⟨#[]⟩ : Str).length = 0, Bo ⟨#[c+1]⟩ ⟨#[92]⟩ = false, Bo ⟨#[c+1]⟩ ⟨#[34]⟩ = false, Cj ⟨#[10, 9, 13, 32]⟩ ⟨#[c+1]⟩ = false, Bo ⟨#[]⟩ ⟨#[c+1]⟩ = false, Bo ⟨#[c+1]⟩ ⟨#[10]⟩ = false, Ba txt (p+1-1) (p+1) ⟨#[c+1]⟩]) /\ ∀ (M K : Nat) (tok' : Str) (tt' : Nat), Ev 400 U.W [] 0 M K [] [] 40 0 (Ay 400 U.W (g.addrs ++ x.addrs) 13 N tk [.s ⟨#[c+1]⟩] (g.objs x (A0 (g.ents x (.str ⟨#[]⟩ tt) ++ [Bg hch tch chv]) 4) ++ x.objs U.P txt p tp ln tl) 254     Hx1     (Ae U.P g (Ad U.P)) .base (.pure (.again (Ae U.P g (Ad U.P))))).c (Ay 400 U.W (g.addrs ++ x.addrs) 13 N tk [.s ⟨#[c+1]⟩] (g.objs x (A0 (g.ents x (.str ⟨#[]⟩ tt) ++ [Bg hch tch chv]) 4) ++ x.objs U.P txt p tp ln tl) 254     Hx1     (Ae U.P g (Ad U.P)) .base (.pure (.again (Ae U.P g (Ad U.P))))).κ (Cb (Ay 400 U.W (g.addrs ++ x.addrs) 13 N tk [.s ⟨#[c+1]⟩] (g.objs x (A0 (g.ents x (.str ⟨#[]⟩ tt) ++ [Bg hch tch chv]) 4) ++ x.objs U.P txt p tp ln tl) 254     Hx1     (Ae U.P g (Ad U.P)) .base (.pure (.again (Ae U.P g (Ad U.P))))).t (.ok (.ret (.str tok' tt')))) [] (.fin (.ret (.str tok' tt'))) [] 0 0 [] := by
 obtain ⟨b, _⟩ := U; cases b <;> exact ⟨by kernel_rfl, fun _ _ _ _ => by kernel_rfl⟩
theorem Mk : Ev 400 U.W (g.addrs ++ x.addrs) 13 N tk [.s ⟨#[c+1]⟩] (g.objs x (A0 (g.ents x (.str tok tt) ++ [Bg hch tch chv]) 4) ++ x.objs U.P txt p tp ln tl) 264
  (x2 0x1a0504400040000411114022e5550400040400400004005044000400004e60eee0ff84f0c0c0cccb00c0c0cccbaccc0c0cc00c0c0ccb000ff0ff913f8766606066665044000400004e00ee0130032202020)
  (Ae U.P g (D2 U.P)) .base (.pure (.again (Ae U.P g (D2 U.P))))
  [0, 1, 2, 3, 4, 5, 6, 7, 8, 9, 10, 11, 12] (.fin (.ret (.str tok tt))) ((g.objs x (A0 (g.ents x (.str tok tt) ++ [Bg hch tch (.str ⟨#[c+1]⟩ (tk+1585))]) 4) ++ x.objs U.P txt (p+1) (tk+1580) (ln+1) (tk+1590)).map some) 3 22
  [Cj ⟨#[10, 9, 13, 32]⟩ ⟨#[c+1]⟩ = true, Bo ⟨#[]⟩ ⟨#[c+1]⟩ = false, Bo ⟨#[c+1]⟩ ⟨#[10]⟩ = true, Ba txt (p+1-1) (p+1) ⟨#[c+1]⟩] := by
 obtain ⟨b, _⟩ := U; cases b <;> kernel_rfl
theorem G7 : Ev 400 U.W (g.addrs ++ x.addrs) 13 N tk [.s ⟨#[c+1]⟩] (g.objs x (A0 (g.ents x (.str ⟨#[]⟩ tt)) 3) ++ x.objs U.P txt p tp ln tl) 262
  (x2 0x2a0504400040000411114022e5550400040400400004005044000400004e60eee0ff84f0c0c0cccb00c0c0cccbaccc0c0cc00c0c0ccb000ff0ff913f8766606066665044000400004e00ee0130032202020)
  (Ae U.P g (Ad U.P)) .base (.pure (.again (Ae U.P g (Ad U.P))))
  [0, 1, 2, 3, 4, 5, 6, 7, 8, 9, 10, 11, 12] (.again (Ae U.P g (Ad U.P))) ((g.objs x (A0 (g.ents x (.str ⟨#[]⟩ tt) ++ [Bg (PyData.keyHash U.P ⟨#[99, 104]⟩) (tk+1593) (.str ⟨#[c+1]⟩ (tk+1585))]) 4) ++ x.objs U.P txt (p+1) (tk+1580) (ln+1) (tk+1590)).map some) 3 22
  [Cj ⟨#[10, 9, 13, 32]⟩ ⟨#[c+1]⟩ = true, Bo ⟨#[]⟩ ⟨#[c+1]⟩ = false, Bo ⟨#[c+1]⟩ ⟨#[10]⟩ = true, Ba txt (p+1-1) (p+1) ⟨#[c+1]⟩] := by
 obtain ⟨b, _⟩ := U; cases b <;> kernel_rfl
theorem Ms : Ev 400 U.W (g.addrs ++ x.addrs) 13 N tk [.s ⟨#[c+1]⟩, .s ⟨#[c2+1]⟩] (g.objs x (A0 (g.ents x (.str tok tt) ++ [Bg hch tch chv]) 4) ++ x.objs U.P txt p tp ln tl) 406
  (x2 0x211e0111111f4011f11f11f12f86f0c0c0cccb00c0c0cccbaccc0c0cc00c0c0ccb0012f12f913f876660606666504400040000411f0011f11f010540000400040004160180504400040000411114022e40eee0ff84f0c0c0cccb00c0c0cccbaccc0c0cc00c0c0ccb000ff0ff913f8766606066665044000400004e00ee0130032202020)
  (Ae U.P g (D2 U.P)) .base (.pure (.again (Ae U.P g (D2 U.P))))
  [0, 1, 2, 3, 4, 5, 6, 7, 8, 9, 10, 11, 12] (.again (Ae U.P g (D2 U.P))) ((g.objs x (A0 (g.ents x (.str (tok ++ ⟨#[c2+1]⟩) (tk+1607)) ++ [Bg hch tch (.str ⟨#[c2+1]⟩ (tk+1603))]) 4) ++ x.objs U.P txt (p+1+1) (tk+1598) ln tl).map some) 6 36
  [(tok : Str).length ≠ 0, (⟨#[c2+1]⟩ : Str).length ≠ 0, (tok ++ ⟨#[c2+1]⟩ : Str).length <= sizeLine, Bo ⟨#[c2+1]⟩ ⟨#[10]⟩ = false, Ba txt (p+1+1-1) (p+1+1) ⟨#[c2+1]⟩, Bo ⟨#[c+1]⟩ ⟨#[92]⟩ = true, Cj ⟨#[10, 9, 13, 32]⟩ ⟨#[c+1]⟩ = false, Bo ⟨#[]⟩ ⟨#[c+1]⟩ = false, Bo ⟨#[c+1]⟩ ⟨#[10]⟩ = false, Ba txt (p+1-1) (p+1) ⟨#[c+1]⟩] := by
 obtain ⟨b, _⟩ := U; cases b <;> kernel_rfl
noncomputable abbrev Hx3 : Nat := (x2 0x2202022111c0111111f4011f11f11f12f86f0c0c0cccb00c0c0cccbaccc0c0cc00c0c0ccb0012f12f913f876660606666504400040000411f0011f11f010540000400040004160140180504400040000411114022e40eee0ff84f0c0c0cccb00c0c0cccbaccc0c0cc00c0c0ccb000ff0ff913f8766606066665044000400004e00ee0130032202020)
theorem Gh : (Ev 400 U.W (g.addrs ++ x.addrs) 13 N tk [.s ⟨#[c+1]⟩, .s ⟨#[c2+1]⟩] (g.objs x (A0 (g.ents x (.str ⟨#[]⟩ tt)) 3) ++ x.objs U.P txt p tp ln tl) 426
  Hx3
  (Ae U.P g (Ad U.P)) .base (.pure (.again (Ae U.P g (Ad U.P))))
  [0, 1, 2, 3, 4, 5, 6, 7, 8, 9, 10, 11, 12] (.call (Ae U.P g (D2 U.P)) 1) ((g.objs x (A0 (g.ents x (.str ⟨#[c2+1]⟩ (tk+1604)) ++ [Bg (PyData.keyHash U.P ⟨#[99, 104]⟩) (tk+1588) (.str ⟨#[c2+1]⟩ (tk+1604))]) 4) ++ x.objs U.P txt (p+1+1) (tk+1599) ln tl).map some) 6 36
  [(⟨#[]⟩ : Str).length = 0, Bo ⟨#[c2+1]⟩ ⟨#[10]⟩ = false, Ba txt (p+1+1-1) (p+1+1) ⟨#[c2+1]⟩, Bo ⟨#[c+1]⟩ ⟨#[92]⟩ = true, Bo ⟨#[c+1]⟩ ⟨#[34]⟩ = false, Cj ⟨#[10, 9, 13, 32]⟩ ⟨#[c+1]⟩ = false, Bo ⟨#[]⟩ ⟨#[c+1]⟩ = false, Bo ⟨#[c+1]⟩ ⟨#[10]⟩ = false, Ba txt (p+1-1) (p+1) ⟨#[c+1]⟩]) /\ ∀ (M K : Nat) (tok' : Str) (tt' : Nat), Ev 400 U.W [] 0 M K [] [] 40 0 (Ay 400 U.W (g.addrs ++ x.addrs) 13 N tk [.s ⟨#[c+1]⟩, .s ⟨#[c2+1]⟩] (g.objs x (A0 (g.ents x (.str ⟨#[]⟩ tt)) 3) ++ x.objs U.P txt p tp ln tl) 426     Hx3     (Ae U.P g (Ad U.P)) .base (.pure (.again (Ae U.P g (Ad U.P))))).c (Ay 400 U.W (g.addrs ++ x.addrs) 13 N tk [.s ⟨#[c+1]⟩, .s ⟨#[c2+1]⟩] (g.objs x (A0 (g.ents x (.str ⟨#[]⟩ tt)) 3) ++ x.objs U.P txt p tp ln tl) 426     Hx3     (Ae U.P g (Ad U.P)) .base (.pure (.again (Ae U.P g (Ad U.P))))).κ (Cb (Ay 400 U.W (g.addrs ++ x.addrs) 13 N tk [.s ⟨#[c+1]⟩, .s ⟨#[c2+1]⟩] (g.objs x (A0 (g.ents x (.str ⟨#[]⟩ tt)) 3) ++ x.objs U.P txt p tp ln tl) 426     Hx3     (Ae U.P g (Ad U.P)) .base (.pure (.again (Ae U.P g (Ad U.P))))).t (.ok (.ret (.str tok' tt')))) [] (.fin (.ret (.str tok' tt'))) [] 0 0 [] := by
 obtain ⟨b, _⟩ := U; cases b <;> exact ⟨by kernel_rfl, fun _ _ _ _ => by kernel_rfl⟩
theorem G9 : (Ev 400 U.W (g.addrs ++ x.addrs) 13 N tk [.s ⟨#[c+1]⟩] (g.objs x (A0 (g.ents x (.str ⟨#[]⟩ tt) ++ [Bg hch tch chv]) 4) ++ x.objs U.P txt p tp ln tl) 231
  Hx2
  (Ae U.P g (Ad U.P)) .base (.pure (.again (Ae U.P g (Ad U.P))))
  [0, 1, 2, 3, 4, 5, 6, 7, 8, 9, 10, 11, 12] (.call (Ae U.P g (Cn U.P)) 1) ((g.objs x (A0 (g.ents x (.str ⟨#[]⟩ tt) ++ [Bg hch tch (.str ⟨#[c+1]⟩ (tk+1585))]) 4) ++ x.objs U.P txt (p+1) (tk+1580) ln tl).map some) 3 18
  [Bo ⟨#[c+1]⟩ ⟨#[34]⟩ = true, Cj ⟨#[10, 9, 13, 32]⟩ ⟨#[c+1]⟩ = false, Bo ⟨#[]⟩ ⟨#[c+1]⟩ = false, Bo ⟨#[c+1]⟩ ⟨#[10]⟩ = false, Ba txt (p+1-1) (p+1) ⟨#[c+1]⟩]) /\ ∀ (M K : Nat) (tok' : Str) (tt' : Nat), Ev 400 U.W [] 0 M K [] [] 40 0 (Ay 400 U.W (g.addrs ++ x.addrs) 13 N tk [.s ⟨#[c+1]⟩] (g.objs x (A0 (g.ents x (.str ⟨#[]⟩ tt) ++ [Bg hch tch chv]) 4) ++ x.objs U.P txt p tp ln tl) 231     Hx2     (Ae U.P g (Ad U.P)) .base (.pure (.again (Ae U.P g (Ad U.P))))).c (Ay 400 U.W (g.addrs ++ x.addrs) 13 N tk [.s ⟨#[c+1]⟩] (g.objs x (A0 (g.ents x (.str ⟨#[]⟩ tt) ++ [Bg hch tch chv]) 4) ++ x.objs U.P txt p tp ln tl) 231     Hx2     (Ae U.P g (Ad U.P)) .base (.pure (.again (Ae U.P g (Ad U.P))))).κ (Cb (Ay 400 U.W (g.addrs ++ x.addrs) 13 N tk [.s ⟨#[c+1]⟩] (g.objs x (A0 (g.ents x (.str ⟨#[]⟩ tt) ++ [Bg hch tch chv]) 4) ++ x.objs U.P txt p tp ln tl) 231     Hx2     (Ae U.P g (Ad U.P)) .base (.pure (.again (Ae U.P g (Ad U.P))))).t (.ok (.ret (.str tok' tt')))) [] (.fin (.ret (.str tok' tt'))) [] 0 0 [] := by
 obtain ⟨b, _⟩ := U; cases b <;> exact ⟨by kernel_rfl, fun _ _ _ _ => by kernel_rfl⟩
theorem Nl : Ev 400 U.W (g.addrs ++ x.addrs) 13 N tk [.s ⟨#[c+1]⟩, .s ⟨#[c2+1]⟩] (g.objs x (A0 (g.ents x (.str tok tt) ++ [Bg hch tch chv]) 4) ++ x.objs U.P txt p tp ln tl) 389
  (x2 0x211e0111111f4011f11f11f12f86f0c0c0cccb00c0c0cccbaccc0c0cc00c0c0ccb0012f12f913f876660606666504400040000411f0011f11f0105400004000400041601401114022e40eee0ff84f0c0c0cccb00c0c0cccbaccc0c0cc00c0c0ccb000ff0ff913f8766606066665044000400004e00ee0130032202020)
  (Ae U.P g (Cn U.P)) .base (.pure (.again (Ae U.P g (Cn U.P))))
  [0, 1, 2, 3, 4, 5, 6, 7, 8, 9, 10, 11, 12] (.again (Ae U.P g (Cn U.P))) ((g.objs x (A0 (g.ents x (.str (tok ++ ⟨#[c2+1]⟩) (tk+1607)) ++ [Bg hch tch (.str ⟨#[c2+1]⟩ (tk+1603))]) 4) ++ x.objs U.P txt (p+1+1) (tk+1598) ln tl).map some) 6 36
  [(tok : Str).length ≠ 0, (⟨#[c2+1]⟩ : Str).length ≠ 0, (tok ++ ⟨#[c2+1]⟩ : Str).length <= sizeLine, Bo ⟨#[c2+1]⟩ ⟨#[10]⟩ = false, Ba txt (p+1+1-1) (p+1+1) ⟨#[c2+1]⟩, Bo ⟨#[c+1]⟩ ⟨#[92]⟩ = true, Bo ⟨#[c+1]⟩ ⟨#[34]⟩ = false, Bo ⟨#[]⟩ ⟨#[c+1]⟩ = false, Bo ⟨#[c+1]⟩ ⟨#[10]⟩ = false, Ba txt (p+1-1) (p+1) ⟨#[c+1]⟩] := by
 obtain ⟨b, _⟩ := U; cases b <;> kernel_rfl
theorem Gg : (Ev 400 U.W (g.addrs ++ x.addrs) 13 N tk [.s ⟨#[c+1]⟩, .s ⟨#[c2+1]⟩] (g.objs x (A0 (g.ents x (.str ⟨#[]⟩ tt) ++ [Bg hch tch chv]) 4) ++ x.objs U.P txt p tp ln tl) 426
  Hx3
  (Ae U.P g (Ad U.P)) .base (.pure (.again (Ae U.P g (Ad U.P))))
  [0, 1, 2, 3, 4, 5, 6, 7, 8, 9, 10, 11, 12] (.call (Ae U.P g (D2 U.P)) 1) ((g.objs x (A0 (g.ents x (.str ⟨#[c2+1]⟩ (tk+1604)) ++ [Bg hch tch (.str ⟨#[c2+1]⟩ (tk+1604))]) 4) ++ x.objs U.P txt (p+1+1) (tk+1599) ln tl).map some) 6 36
  [(⟨#[]⟩ : Str).length = 0, Bo ⟨#[c2+1]⟩ ⟨#[10]⟩ = false, Ba txt (p+1+1-1) (p+1+1) ⟨#[c2+1]⟩, Bo ⟨#[c+1]⟩ ⟨#[92]⟩ = true, Bo ⟨#[c+1]⟩ ⟨#[34]⟩ = false, Cj ⟨#[10, 9, 13, 32]⟩ ⟨#[c+1]⟩ = false, Bo ⟨#[]⟩ ⟨#[c+1]⟩ = false, Bo ⟨#[c+1]⟩ ⟨#[10]⟩ = false, Ba txt (p+1-1) (p+1) ⟨#[c+1]⟩]) /\ ∀ (M K : Nat) (tok' : Str) (tt' : Nat), Ev 400 U.W [] 0 M K [] [] 40 0 (Ay 400 U.W (g.addrs ++ x.addrs) 13 N tk [.s ⟨#[c+1]⟩, .s ⟨#[c2+1]⟩] (g.objs x (A0 (g.ents x (.str ⟨#[]⟩ tt) ++ [Bg hch tch chv]) 4) ++ x.objs U.P txt p tp ln tl) 426     Hx3     (Ae U.P g (Ad U.P)) .base (.pure (.again (Ae U.P g (Ad U.P))))).c (Ay 400 U.W (g.addrs ++ x.addrs) 13 N tk [.s ⟨#[c+1]⟩, .s ⟨#[c2+1]⟩] (g.objs x (A0 (g.ents x (.str ⟨#[]⟩ tt) ++ [Bg hch tch chv]) 4) ++ x.objs U.P txt p tp ln tl) 426     Hx3     (Ae U.P g (Ad U.P)) .base (.pure (.again (Ae U.P g (Ad U.P))))).κ (Cb (Ay 400 U.W (g.addrs ++ x.addrs) 13 N tk [.s ⟨#[c+1]⟩, .s ⟨#[c2+1]⟩] (g.objs x (A0 (g.ents x (.str ⟨#[]⟩ tt) ++ [Bg hch tch chv]) 4) ++ x.objs U.P txt p tp ln tl) 426     Hx3     (Ae U.P g (Ad U.P)) .base (.pure (.again (Ae U.P g (Ad U.P))))).t (.ok (.ret (.str tok' tt')))) [] (.fin (.ret (.str tok' tt'))) [] 0 0 [] := by
 obtain ⟨b, _⟩ := U; cases b <;> exact ⟨by kernel_rfl, fun _ _ _ _ => by kernel_rfl⟩
theorem Nn : Ev 400 U.W (g.addrs ++ x.addrs) 13 N tk [.s ⟨#[c+1]⟩, .s ⟨#[c2+1]⟩] (g.objs x (A0 (g.ents x (.str ⟨#[]⟩ tt) ++ [Bg hch tch chv]) 4) ++ x.objs U.P txt p tp ln tl) 389
  (x2 0x211c0111111f4011f11f11f12f86f0c0c0cccb00c0c0cccbaccc0c0cc00c0c0ccb0012f12f913f876660606666504400040000411f0011f11f0105400004000400041601401114022e40eee0ff84f0c0c0cccb00c0c0cccbaccc0c0cc00c0c0ccb000ff0ff913f8766606066665044000400004e00ee0130032202020)
  (Ae U.P g (Cn U.P)) .base (.pure (.again (Ae U.P g (Cn U.P))))
  [0, 1, 2, 3, 4, 5, 6, 7, 8, 9, 10, 11, 12] (.again (Ae U.P g (Cn U.P))) ((g.objs x (A0 (g.ents x (.str ⟨#[c2+1]⟩ (tk+1603)) ++ [Bg hch tch (.str ⟨#[c2+1]⟩ (tk+1603))]) 4) ++ x.objs U.P txt (p+1+1) (tk+1598) ln tl).map some) 6 35
  [(⟨#[]⟩ : Str).length = 0, Bo ⟨#[c2+1]⟩ ⟨#[10]⟩ = false, Ba txt (p+1+1-1) (p+1+1) ⟨#[c2+1]⟩, Bo ⟨#[c+1]⟩ ⟨#[92]⟩ = true, Bo ⟨#[c+1]⟩ ⟨#[34]⟩ = false, Bo ⟨#[]⟩ ⟨#[c+1]⟩ = false, Bo ⟨#[c+1]⟩ ⟨#[10]⟩ = false, Ba txt (p+1-1) (p+1) ⟨#[c+1]⟩] := by
 obtain ⟨b, _⟩ := U; cases b <;> kernel_rfl
end
noncomputable def Ai (l : List (Bool × Nat)) : List Nat := l.flatMap fun p => if p.1 then [92, p.2] else [p.2]
noncomputable def Cm (l : List (Bool × Nat)) : List Nat := l.map (·.2)
noncomputable def P4 (p : Bool × Nat) : Prop := 1 <= p.2 /\ p.2 ≠ 10 /\ (p.1 = false -> p.2 ∉ [10, 9, 13, 32] /\ p.2 ≠ 92)
noncomputable def Aas (p : Bool × Nat) : Prop := 1 <= p.2 /\ p.2 ≠ 10 /\ (p.1 = false -> p.2 ≠ 34 /\ p.2 ≠ 92)
theorem C3 {v : Nat} (h : 1 <= v) : ∃ c, v = c + 1 := ⟨v - 1, by lia⟩
section
variable {U : Fl} {x : NL} {g : GT} {txt : Str}
noncomputable abbrev LG (w : World) (x : NL) (g : GT) (txt : Str) (p : Int) (tp : Nat) (ln : Int) (tl : Nat) (tok : Str) (tt : Nat) (hch : Int) (tch : Nat) (chv : Value) : List (Nat × Obj) :=
 (g.addrs ++ x.addrs).zip (g.objs x (A0 (g.ents x (.str tok tt) ++ [Bg hch tch chv]) 4) ++ x.objs w.params txt p tp ln tl)
noncomputable def B3 (ln : Int) (v : Nat) : Int := if v = 10 then ln + 1 else ln
theorem Em (a b : Str) : (a ++ b).length = a.length + b.length := by
 show (a.cps ++ b.cps).size = _
 rw [Array.size_append]; rfl
theorem Ij (a b : Str) : (a ++ b).cps.toList = a.cps.toList ++ b.cps.toList := by
 show (a.cps ++ b.cps).toList = _
 simp
theorem E5 (h2 : 2 <= txt.length) : ∀ (items : List (Bool × Nat)) (pre rest : List Nat) (sep : Nat) (p : Int) (tp : Nat) (ln : Int) (tl : Nat) (tok : Str) (tt : Nat) (hch : Int) (tch : Nat) (chv : Value) (A : Around) (s : Shared) (R : Result -> Shared -> Prop),
  (∀ i ∈ items, P4 i) -> sep ∈ [10, 9, 13, 32] -> txt.cps.toList = pre ++ (Ai items ++ sep :: rest) -> p = pre.length -> tok.length ≠ 0 -> tok.length + items.length <= sizeLine ->
  A.handled = none -> A.depth <= 400 -> At U.W s (LG U.W x g txt p tp ln tl tok tt hch tch chv) ->
  (∀ s' tp' tl' (tok' : Str) tt' chv', tok'.cps.toList = tok.cps.toList ++ Cm items ->
   At U.W s' (LG U.W x g txt (p + (Ai items).length + 1) tp' (B3 ln sep) tl' tok' tt' hch tch chv') -> Keeps (g.addrs ++ x.addrs) s s' -> R (.ok (.ret (.str tok' tt'))) s') ->
  codeAny (Ak U.W) A (Ae U.P g (D2 U.P)) R s
 | [], pre, rest, sep, p, tp, ln, tl, tok, tt, hch, tch, chv, A, s, R, hi, hs, ht, hp, h0, hl, hA, hD, H, cont => by
  obtain ⟨c, rfl⟩ := C3 (v := sep) (by simp at hs; lia)
  obtain ⟨N, tk, hN, hT⟩ := H.NT
  have ha := B0 (txt := txt) (pre := pre) (v := c + 1) (rest := rest) (by simpa [Ai] using ht)
  have hin : Cj ⟨#[10, 9, 13, 32]⟩ ⟨#[c + 1]⟩ = true := Lk (by simpa using hs)
  by_cases h10 : c + 1 = 10
  ·refine Aa (Ah (Mk U x g txt _ _ _ _ _ _ _ _ _ c N tk) hA hD H rfl rfl rfl rfl hN hT ⟨hin, Nk, I4 h10, Am ha h2 (by lia) (by lia), trivial⟩ ?_)
   intro s' H' K _ _
   exact cont s' _ _ tok tt _ (by simp [Cm]) (by
    have e : B3 ln (c + 1) = ln + 1 := by unfold B3; rw [if_pos h10]
    rw [e]; simp only [Ai, List.flatMap_nil, List.length_nil, Int.natCast_zero, Int.add_zero]; exact H') K
  ·refine Aa (Ah (Ny U x g txt _ _ _ _ _ _ _ _ _ c N tk) hA hD H rfl rfl rfl rfl hN hT ⟨hin, Nk, Dh h10, Am ha h2 (by lia) (by lia), trivial⟩ ?_)
   intro s' H' K _ _
   exact cont s' _ _ tok tt _ (by simp [Cm]) (by
    have e : B3 ln (c + 1) = ln := by unfold B3; rw [if_neg h10]
    rw [e]; simp only [Ai, List.flatMap_nil, List.length_nil, Int.natCast_zero, Int.add_zero]; exact H') K
 | (false, v) :: items, pre, rest, sep, p, tp, ln, tl, tok, tt, hch, tch, chv, A, s, R, hi, hs, ht, hp, h0, hl, hA, hD, H, cont => by
  obtain ⟨hv1, hv10, hvo⟩ := hi _ (.head _)
  obtain ⟨hvw, hvb⟩ := hvo rfl
  dsimp only at hv1 hv10 hvw hvb
  obtain ⟨c, rfl⟩ := C3 hv1
  obtain ⟨N, tk, hN, hT⟩ := H.NT
  have ha := B0 (txt := txt) (pre := pre) (v := c + 1) (rest := Ai items ++ sep :: rest) (by simpa [Ai] using ht)
  simp only [List.length_cons] at hl
  have hl1 : (tok ++ (⟨#[c + 1]⟩ : Str)).length = tok.length + 1 := by rw [Em]; rfl
  refine Aa (Ah (Of U x g txt _ _ _ _ _ _ _ _ _ c N tk) hA hD H rfl rfl rfl rfl hN hT
   ⟨h0, Nat.one_ne_zero, by rw [hl1]; lia, Dh hvb, Dm (by simpa using hvw), Nk, Dh hv10, Am ha h2 (by lia) (by lia), trivial⟩ ?_)
  intro s' H' K _ _
  refine ⟨rfl, E5 h2 items (pre ++ [c + 1]) rest sep _ _ _ _ _ _ _ _ _ A s' R (fun i m => hi i (.tail _ m)) hs (by simpa [Ai] using ht) (by simp; lia) (by rw [hl1]; lia) (by rw [hl1]; lia) hA hD H' ?_⟩
  intro s'' tp' tl' tok' tt' chv' e H'' K'
  refine cont s'' tp' tl' tok' tt' chv' (by rw [e, Ij]; simp [Cm]) ?_ (K.trans K')
  have e2 : p + ((Ai ((false, c + 1) :: items)).length : Int) + 1 = p + 1 + ((Ai items).length : Int) + 1 := by simp [Ai]; lia
  rw [e2]; exact H''
 | (true, v) :: items, pre, rest, sep, p, tp, ln, tl, tok, tt, hch, tch, chv, A, s, R, hi, hs, ht, hp, h0, hl, hA, hD, H, cont => by
  obtain ⟨hv1, hv10, hvo⟩ := hi _ (.head _)
  dsimp only at hv1 hv10
  obtain ⟨c2, rfl⟩ := C3 hv1
  obtain ⟨N, tk, hN, hT⟩ := H.NT
  have ha := B0 (txt := txt) (pre := pre) (v := 91 + 1) (rest := (c2 + 1) :: (Ai items ++ sep :: rest)) (by simpa [Ai] using ht)
  have hb := B0 (txt := txt) (pre := pre ++ [92]) (v := c2 + 1) (rest := Ai items ++ sep :: rest) (by simpa [Ai] using ht)
  simp only [List.length_append, List.length_cons, List.length_nil] at hb
  simp only [List.length_cons] at hl
  have hl1 : (tok ++ (⟨#[c2 + 1]⟩ : Str)).length = tok.length + 1 := by rw [Em]; rfl
  refine Aa (Ah (Ms U x g txt _ _ _ _ _ _ _ _ _ 91 c2 N tk) hA hD H rfl rfl rfl rfl hN hT
   ⟨h0, Nat.one_ne_zero, by rw [hl1]; lia, Dh hv10, Am hb h2 (by lia) (by lia), I4 rfl, Dm (by decide), Nk, Dh (by decide), Am ha h2 (by lia) (by lia), trivial⟩ ?_)
  intro s' H' K _ _
  refine ⟨rfl, E5 h2 items (pre ++ [92, c2 + 1]) rest sep _ _ _ _ _ _ _ _ _ A s' R (fun i m => hi i (.tail _ m)) hs (by simpa [Ai] using ht) (by simp; lia) (by rw [hl1]; lia) (by rw [hl1]; lia) hA hD H' ?_⟩
  intro s'' tp' tl' tok' tt' chv' e H'' K'
  refine cont s'' tp' tl' tok' tt' chv' (by rw [e, Ij]; simp [Cm]) ?_ (K.trans K')
  have e2 : p + ((Ai ((true, c2 + 1) :: items)).length : Int) + 1 = p + 1 + 1 + ((Ai items).length : Int) + 1 := by simp [Ai]; lia
  rw [e2]; exact H''
end
section
variable {U : Fl} {x : NL} {g : GT} {txt : Str}
theorem Uk {t : Str} (h : t.length = 0) : t = ⟨#[]⟩ := by
 obtain ⟨c⟩ := t
 have : c = #[] := Array.eq_empty_of_size_eq_zero h
 rw [this]
theorem E9 (h2 : 2 <= txt.length) : ∀ (items : List (Bool × Nat)) (pre rest : List Nat) (p : Int) (tp : Nat) (ln : Int) (tl : Nat) (tok : Str) (tt : Nat) (hch : Int) (tch : Nat) (chv : Value) (A : Around) (s : Shared) (R : Result -> Shared -> Prop),
  (∀ i ∈ items, Aas i) -> txt.cps.toList = pre ++ (Ai items ++ 34 :: rest) -> p = pre.length -> tok.length + items.length <= sizeLine ->
  A.handled = none -> A.depth <= 400 -> At U.W s (LG U.W x g txt p tp ln tl tok tt hch tch chv) ->
  (∀ s' tp' tl' (tok' : Str) tt' chv', tok'.cps.toList = tok.cps.toList ++ Cm items ->
   At U.W s' (LG U.W x g txt (p + (Ai items).length + 1) tp' ln tl' tok' tt' hch tch chv') -> Keeps (g.addrs ++ x.addrs) s s' -> R (.ok (.ret (.str tok' tt'))) s') ->
  codeAny (Ak U.W) A (Ae U.P g (Cn U.P)) R s
 | [], pre, rest, p, tp, ln, tl, tok, tt, hch, tch, chv, A, s, R, hi, ht, hp, hl, hA, hD, H, cont => by
  obtain ⟨N, tk, hN, hT⟩ := H.NT
  have ha := B0 (txt := txt) (pre := pre) (v := 33 + 1) (rest := rest) (by simpa [Ai] using ht)
  refine Aa (Ah (Oa U x g txt _ _ _ _ _ _ _ _ _ 33 N tk) hA hD H rfl rfl rfl rfl hN hT ⟨I4 rfl, Nk, Dh (by decide), Am ha h2 (by lia) (by lia), trivial⟩ ?_)
  intro s' H' K _ _
  exact cont s' _ _ tok tt _ (by simp [Cm]) (by simp only [Ai, List.flatMap_nil, List.length_nil, Int.natCast_zero, Int.add_zero]; exact H') K
 | (false, v) :: items, pre, rest, p, tp, ln, tl, tok, tt, hch, tch, chv, A, s, R, hi, ht, hp, hl, hA, hD, H, cont => by
  obtain ⟨hv1, hv10, hvo⟩ := hi _ (.head _)
  obtain ⟨hvw, hvb⟩ := hvo rfl
  dsimp only at hv1 hv10 hvw hvb
  obtain ⟨c, rfl⟩ := C3 hv1
  obtain ⟨N, tk, hN, hT⟩ := H.NT
  have ha := B0 (txt := txt) (pre := pre) (v := c + 1) (rest := Ai items ++ 34 :: rest) (by simpa [Ai] using ht)
  simp only [List.length_cons] at hl
  have e2 : p + ((Ai ((false, c + 1) :: items)).length : Int) + 1 = p + 1 + ((Ai items).length : Int) + 1 := by simp [Ai]; lia
  by_cases h0 : tok.length = 0
  ·have := Uk h0
   subst this
   refine Aa (Ah (Oc U x g txt _ _ _ _ _ _ _ _ c N tk) hA hD H rfl rfl rfl rfl hN hT
    ⟨rfl, Dh hvb, Dh hvw, Nk, Dh hv10, Am ha h2 (by lia) (by lia), trivial⟩ ?_)
   intro s' H' K _ _
   refine ⟨rfl, E9 h2 items (pre ++ [c + 1]) rest _ _ _ _ _ _ _ _ _ A s' R (fun i m => hi i (.tail _ m)) (by simpa [Ai] using ht) (by simp; lia) (by show 1 + _ <= _; lia) hA hD H' ?_⟩
   intro s'' tp' tl' tok' tt' chv' e H'' K'
   refine cont s'' tp' tl' tok' tt' chv' (by rw [e]; simp [Cm]) ?_ (K.trans K')
   rw [e2]; exact H''
  ·have hl1 : (tok ++ (⟨#[c + 1]⟩ : Str)).length = tok.length + 1 := by rw [Em]; rfl
   refine Aa (Ah (Oo U x g txt _ _ _ _ _ _ _ _ _ c N tk) hA hD H rfl rfl rfl rfl hN hT
    ⟨h0, Nat.one_ne_zero, by rw [hl1]; lia, Dh hvb, Dh hvw, Nk, Dh hv10, Am ha h2 (by lia) (by lia), trivial⟩ ?_)
   intro s' H' K _ _
   refine ⟨rfl, E9 h2 items (pre ++ [c + 1]) rest _ _ _ _ _ _ _ _ _ A s' R (fun i m => hi i (.tail _ m)) (by simpa [Ai] using ht) (by simp; lia) (by rw [hl1]; lia) hA hD H' ?_⟩
   intro s'' tp' tl' tok' tt' chv' e H'' K'
   refine cont s'' tp' tl' tok' tt' chv' (by rw [e, Ij]; simp [Cm]) ?_ (K.trans K')
   rw [e2]; exact H''
 | (true, v) :: items, pre, rest, p, tp, ln, tl, tok, tt, hch, tch, chv, A, s, R, hi, ht, hp, hl, hA, hD, H, cont => by
  obtain ⟨hv1, hv10, hvo⟩ := hi _ (.head _)
  dsimp only at hv1 hv10
  obtain ⟨c2, rfl⟩ := C3 hv1
  obtain ⟨N, tk, hN, hT⟩ := H.NT
  have ha := B0 (txt := txt) (pre := pre) (v := 91 + 1) (rest := (c2 + 1) :: (Ai items ++ 34 :: rest)) (by simpa [Ai] using ht)
  have hb := B0 (txt := txt) (pre := pre ++ [92]) (v := c2 + 1) (rest := Ai items ++ 34 :: rest) (by simpa [Ai] using ht)
  simp only [List.length_append, List.length_cons, List.length_nil] at hb
  simp only [List.length_cons] at hl
  have e2 : p + ((Ai ((true, c2 + 1) :: items)).length : Int) + 1 = p + 1 + 1 + ((Ai items).length : Int) + 1 := by simp [Ai]; lia
  by_cases h0 : tok.length = 0
  ·have := Uk h0
   subst this
   refine Aa (Ah (Nn U x g txt _ _ _ _ _ _ _ _ 91 c2 N tk) hA hD H rfl rfl rfl rfl hN hT
    ⟨rfl, Dh hv10, Am hb h2 (by lia) (by lia), I4 rfl, Dh (by decide), Nk, Dh (by decide), Am ha h2 (by lia) (by lia), trivial⟩ ?_)
   intro s' H' K _ _
   refine ⟨rfl, E9 h2 items (pre ++ [92, c2 + 1]) rest _ _ _ _ _ _ _ _ _ A s' R (fun i m => hi i (.tail _ m)) (by simpa [Ai] using ht) (by simp; lia) (by show 1 + _ <= _; lia) hA hD H' ?_⟩
   intro s'' tp' tl' tok' tt' chv' e H'' K'
   refine cont s'' tp' tl' tok' tt' chv' (by rw [e]; simp [Cm]) ?_ (K.trans K')
   rw [e2]; exact H''
  ·have hl1 : (tok ++ (⟨#[c2 + 1]⟩ : Str)).length = tok.length + 1 := by rw [Em]; rfl
   refine Aa (Ah (Nl U x g txt _ _ _ _ _ _ _ _ _ 91 c2 N tk) hA hD H rfl rfl rfl rfl hN hT
    ⟨h0, Nat.one_ne_zero, by rw [hl1]; lia, Dh hv10, Am hb h2 (by lia) (by lia), I4 rfl, Dh (by decide), Nk, Dh (by decide), Am ha h2 (by lia) (by lia), trivial⟩ ?_)
   intro s' H' K _ _
   refine ⟨rfl, E9 h2 items (pre ++ [92, c2 + 1]) rest _ _ _ _ _ _ _ _ _ A s' R (fun i m => hi i (.tail _ m)) (by simpa [Ai] using ht) (by simp; lia) (by rw [hl1]; lia) hA hD H' ?_⟩
   intro s'' tp' tl' tok' tt' chv' e H'' K'
   refine cont s'' tp' tl' tok' tt' chv' (by rw [e, Ij]; simp [Cm]) ?_ (K.trans K')
   rw [e2]; exact H''
end
theorem At.drop {w : World} {L M : List (Nat × Obj)} (H : At w s (L ++ M)) : At w s M :=
 H.sub (fun p hp => List.mem_append_right _ hp) (by
  have := H.nd
  rw [List.map_append] at this
  exact (List.nodup_append.mp this).2.1)
theorem At.nil {w : World} {L : List (Nat × Obj)} (H : At w s L) : At w s [] :=
 H.sub (fun p hp => by cases hp) List.nodup_nil
inductive Wd where
 | bare (e : Bool) (v : Nat) (items : List (Bool × Nat)) (sep : Nat)
 | quo (items : List (Bool × Nat))
noncomputable def Wd.enc : Wd -> List Nat
 | .bare e v items sep => Ai ((e, v) :: items) ++ [sep]
 | .quo items => 34 :: (Ai items ++ [34])
noncomputable def Wd.val : Wd -> List Nat
 | .bare e v items sep => v :: Cm items
 | .quo items => Cm items
noncomputable def Wd.ln (l : Int) : Wd -> Int
 | .bare e v items sep => B3 l sep
 | .quo items => l
noncomputable def Wd.ok : Wd -> Prop
 | .bare e v items sep => P4 (e, v) /\ (e = false -> v ≠ 34) /\ (∀ i ∈ items, P4 i) /\ sep ∈ [10, 9, 13, 32] /\ 1 + items.length <= sizeLine
 | .quo items => (∀ i ∈ items, Aas i) /\ items.length <= sizeLine
section
variable {U : Fl} {x : NL} {g : GT} {txt : Str}
noncomputable abbrev LU (w : World) (x : NL) (g : GT) (txt : Str) (p : Int) (tp : Nat) (ln : Int) (tl : Nat) (tt : Nat) : List (Nat × Obj) :=
 (g.addrs ++ x.addrs).zip (g.objs x (A0 (g.ents x (.str ⟨#[]⟩ tt)) 3) ++ x.objs w.params txt p tp ln tl)
noncomputable abbrev LX (w : World) (x : NL) (txt : Str) (p : Int) (tp : Nat) (ln : Int) (tl : Nat) : List (Nat × Obj) := x.addrs.zip (x.objs w.params txt p tp ln tl)
theorem M0 {p : Int} {tp : Nat} {ln : Int} {tl : Nat} {tok : Str} {tt : Nat} {hch : Int} {tch : Nat} {chv : Value} (H : At w s (LG w x g txt p tp ln tl tok tt hch tch chv)) : At w s (LX w x txt p tp ln tl) :=
 At.drop (L := g.addrs.zip (g.objs x (A0 (g.ents x (.str tok tt) ++ [Bg hch tch chv]) 4))) H
theorem Hl {c : Code} {κ : Kn} {t : Sem Fin} {f : Flow} {L : List (Nat × Obj)} (ev : ∀ M K, Ev 400 w [] 0 M K [] [] 40 0 c κ t [] (.fin f) [] 0 0 [])
  (hA : A.handled = none) (hD : A.depth <= 400) (H : At w s L) (h : ∀ s', At w s' L -> Keeps [] s s' -> R (.ok f) s') : MK w A R c κ t s := by
 obtain ⟨N, tk, hN, hT⟩ := H.NT
 refine Ah (objs' := []) (ev N tk) hA hD H.nil rfl rfl rfl rfl hN hT trivial ?_
 intro s3 H3 K3 _ _
 exact h s3 (At.frame (L := []) (M := L) (L' := []) H H3 K3 (by simp)) K3
noncomputable def Jw (w : World) (x : NL) (g : GT) (txt : Str) (s : Shared) (p : Int) (ln : Int) (val : List Nat) (R : Result -> Shared -> Prop) : Prop :=
 ∀ s' tp' tl' (tok' : Str) tt', tok'.cps.toList = val -> At w s' (LX w x txt p tp' ln tl') -> Keeps (g.addrs ++ x.addrs) s s' -> R (.ok (.ret (.str tok' tt'))) s'
theorem Lt (h2 : 2 <= txt.length) (wd : Wd) (hok : wd.ok) {pre rest : List Nat} {p : Int} {tp : Nat} {ln : Int} {tl : Nat} {tt : Nat} {hch : Int} {tch : Nat} {chv : Value}
  (ht : txt.cps.toList = pre ++ (wd.enc ++ rest)) (hp : p = pre.length) (hA : A.handled = none) (hD : A.depth <= 399) (H : At U.W s (LG U.W x g txt p tp ln tl ⟨#[]⟩ tt hch tch chv))
  (cont : Jw U.W x g txt s (p + wd.enc.length) (wd.ln ln) wd.val R) :
  codeAny (Ak U.W) A (Ae U.P g (Ad U.P)) R s := by
 obtain ⟨N, tk, hN, hT⟩ := H.NT
 cases wd with
 | bare e v items sep =>
  obtain ⟨⟨hv1, hv10, hvo⟩, hq, hi, hs, hl⟩ := hok
  cases e with
  | false =>
   obtain ⟨hvw, hvb⟩ := hvo rfl
   have hq := hq rfl
   dsimp only at hv1 hv10 hvw hvb hq
   obtain ⟨c, rfl⟩ := C3 hv1
   have ha := B0 (txt := txt) (pre := pre) (v := c + 1) (rest := Ai items ++ sep :: rest) (by simpa [Wd.enc, Ai] using ht)
   refine Aa (Ah (Hf U x g txt _ _ _ _ _ _ _ _ c N tk).1 hA (dl hD) H rfl rfl rfl rfl hN hT
    ⟨rfl, Dh hvb, Dh hq, Dm (by simpa using hvw), Nk, Dh hv10, Am ha h2 (by lia) (by lia), trivial⟩ ?_)
   intro s' H' K _ _
   intro A' hA' hD'
   refine E5 h2 items (pre ++ [c + 1]) rest sep _ _ _ _ _ _ _ _ _ A' s' _ hi hs (by simpa [Wd.enc, Ai] using ht) (by simp; lia) (by show 1 ≠ 0; decide) (by show 1 + _ <= _; lia) hA' (Dv hD' hD) H' ?_
   intro s'' tp' tl' tok' tt' chv' e H'' K'
   refine Hl (fun M K => (Hf U x g txt _ _ _ _ _ _ _ _ c N tk).2 M K tok' tt') hA (dl hD) H'' ?_
   intro s3 H3 K3
   refine cont s3 tp' tl' tok' tt' (by rw [e]; rfl) ?_ ((K.trans K').trans (K3.mono (by simp)))
   have e2 : p + ((Wd.bare false (c + 1) items sep).enc.length : Int) = p + 1 + ((Ai items).length : Int) + 1 := by simp [Wd.enc, Ai]; lia
   rw [e2]
   exact M0 H3
  | true =>
   dsimp only at hv1 hv10
   obtain ⟨c2, rfl⟩ := C3 hv1
   have ha := B0 (txt := txt) (pre := pre) (v := 91 + 1) (rest := (c2 + 1) :: (Ai items ++ sep :: rest)) (by simpa [Wd.enc, Ai] using ht)
   have hb := B0 (txt := txt) (pre := pre ++ [92]) (v := c2 + 1) (rest := Ai items ++ sep :: rest) (by simpa [Wd.enc, Ai] using ht)
   simp only [List.length_append, List.length_cons, List.length_nil] at hb
   refine Aa (Ah (Gg U x g txt _ _ _ _ _ _ _ _ 91 c2 N tk).1 hA (dl hD) H rfl rfl rfl rfl hN hT
    ⟨rfl, Dh hv10, Am hb h2 (by lia) (by lia), I4 rfl, Dh (by decide), Dm (by decide), Nk, Dh (by decide), Am ha h2 (by lia) (by lia), trivial⟩ ?_)
   intro s' H' K _ _
   intro A' hA' hD'
   refine E5 h2 items (pre ++ [92, c2 + 1]) rest sep _ _ _ _ _ _ _ _ _ A' s' _ hi hs (by simpa [Wd.enc, Ai] using ht) (by simp; lia) (by show 1 ≠ 0; decide) (by show 1 + _ <= _; lia) hA' (Dv hD' hD) H' ?_
   intro s'' tp' tl' tok' tt' chv' e H'' K'
   refine Hl (fun M K => (Gg U x g txt _ _ _ _ _ _ _ _ 91 c2 N tk).2 M K tok' tt') hA (dl hD) H'' ?_
   intro s3 H3 K3
   refine cont s3 tp' tl' tok' tt' (by rw [e]; rfl) ?_ ((K.trans K').trans (K3.mono (by simp)))
   have e2 : p + ((Wd.bare true (c2 + 1) items sep).enc.length : Int) = p + 1 + 1 + ((Ai items).length : Int) + 1 := by simp [Wd.enc, Ai]; lia
   rw [e2]
   exact M0 H3
 | quo items =>
  obtain ⟨hi, hl⟩ := hok
  have ha := B0 (txt := txt) (pre := pre) (v := 33 + 1) (rest := Ai items ++ 34 :: rest) (by simpa [Wd.enc] using ht)
  refine Aa (Ah (G9 U x g txt _ _ _ _ _ _ _ _ 33 N tk).1 hA (dl hD) H rfl rfl rfl rfl hN hT
   ⟨I4 rfl, Dm (by decide), Nk, Dh (by decide), Am ha h2 (by lia) (by lia), trivial⟩ ?_)
  intro s' H' K _ _
  intro A' hA' hD'
  refine E9 h2 items (pre ++ [34]) rest _ _ _ _ _ _ _ _ _ A' s' _ hi (by simpa [Wd.enc] using ht) (by simp; lia) (by show 0 + _ <= _; lia) hA' (Dv hD' hD) H' ?_
  intro s'' tp' tl' tok' tt' chv' e H'' K'
  refine Hl (fun M K => (G9 U x g txt _ _ _ _ _ _ _ _ 33 N tk).2 M K tok' tt') hA (dl hD) H'' ?_
  intro s3 H3 K3
  refine cont s3 tp' tl' tok' tt' (by rw [e]; rfl) ?_ ((K.trans K').trans (K3.mono (by simp)))
  have e2 : p + ((Wd.quo items).enc.length : Int) = p + 1 + ((Ai items).length : Int) + 1 := by simp [Wd.enc]; lia
  rw [e2]
  exact M0 H3
theorem Ss (h2 : 2 <= txt.length) (wd : Wd) (hok : wd.ok) {pre rest : List Nat} {p : Int} {tp : Nat} {ln : Int} {tl : Nat} {tt : Nat}
  (ht : txt.cps.toList = pre ++ (wd.enc ++ rest)) (hp : p = pre.length) (hA : A.handled = none) (hD : A.depth <= 399) (H : At U.W s (LU U.W x g txt p tp ln tl tt))
  (cont : Jw U.W x g txt s (p + wd.enc.length) (wd.ln ln) wd.val R) :
  codeAny (Ak U.W) A (Ae U.P g (Ad U.P)) R s := by
 obtain ⟨N, tk, hN, hT⟩ := H.NT
 cases wd with
 | bare e v items sep =>
  obtain ⟨⟨hv1, hv10, hvo⟩, hq, hi, hs, hl⟩ := hok
  cases e with
  | false =>
   obtain ⟨hvw, hvb⟩ := hvo rfl
   have hq := hq rfl
   dsimp only at hv1 hv10 hvw hvb hq
   obtain ⟨c, rfl⟩ := C3 hv1
   have ha := B0 (txt := txt) (pre := pre) (v := c + 1) (rest := Ai items ++ sep :: rest) (by simpa [Wd.enc, Ai] using ht)
   refine Aa (Ah (He U x g txt _ _ _ _ _ c N tk).1 hA (dl hD) H rfl rfl rfl rfl hN hT
    ⟨rfl, Dh hvb, Dh hq, Dm (by simpa using hvw), Nk, Dh hv10, Am ha h2 (by lia) (by lia), trivial⟩ ?_)
   intro s' H' K _ _
   intro A' hA' hD'
   refine E5 h2 items (pre ++ [c + 1]) rest sep _ _ _ _ _ _ _ _ _ A' s' _ hi hs (by simpa [Wd.enc, Ai] using ht) (by simp; lia) (by show 1 ≠ 0; decide) (by show 1 + _ <= _; lia) hA' (Dv hD' hD) H' ?_
   intro s'' tp' tl' tok' tt' chv' e H'' K'
   refine Hl (fun M K => (He U x g txt _ _ _ _ _ c N tk).2 M K tok' tt') hA (dl hD) H'' ?_
   intro s3 H3 K3
   refine cont s3 tp' tl' tok' tt' (by rw [e]; rfl) ?_ ((K.trans K').trans (K3.mono (by simp)))
   have e2 : p + ((Wd.bare false (c + 1) items sep).enc.length : Int) = p + 1 + ((Ai items).length : Int) + 1 := by simp [Wd.enc, Ai]; lia
   rw [e2]
   exact M0 H3
  | true =>
   dsimp only at hv1 hv10
   obtain ⟨c2, rfl⟩ := C3 hv1
   have ha := B0 (txt := txt) (pre := pre) (v := 91 + 1) (rest := (c2 + 1) :: (Ai items ++ sep :: rest)) (by simpa [Wd.enc, Ai] using ht)
   have hb := B0 (txt := txt) (pre := pre ++ [92]) (v := c2 + 1) (rest := Ai items ++ sep :: rest) (by simpa [Wd.enc, Ai] using ht)
   simp only [List.length_append, List.length_cons, List.length_nil] at hb
   refine Aa (Ah (Gh U x g txt _ _ _ _ _ 91 c2 N tk).1 hA (dl hD) H rfl rfl rfl rfl hN hT
    ⟨rfl, Dh hv10, Am hb h2 (by lia) (by lia), I4 rfl, Dh (by decide), Dm (by decide), Nk, Dh (by decide), Am ha h2 (by lia) (by lia), trivial⟩ ?_)
   intro s' H' K _ _
   intro A' hA' hD'
   refine E5 h2 items (pre ++ [92, c2 + 1]) rest sep _ _ _ _ _ _ _ _ _ A' s' _ hi hs (by simpa [Wd.enc, Ai] using ht) (by simp; lia) (by show 1 ≠ 0; decide) (by show 1 + _ <= _; lia) hA' (Dv hD' hD) H' ?_
   intro s'' tp' tl' tok' tt' chv' e H'' K'
   refine Hl (fun M K => (Gh U x g txt _ _ _ _ _ 91 c2 N tk).2 M K tok' tt') hA (dl hD) H'' ?_
   intro s3 H3 K3
   refine cont s3 tp' tl' tok' tt' (by rw [e]; rfl) ?_ ((K.trans K').trans (K3.mono (by simp)))
   have e2 : p + ((Wd.bare true (c2 + 1) items sep).enc.length : Int) = p + 1 + 1 + ((Ai items).length : Int) + 1 := by simp [Wd.enc, Ai]; lia
   rw [e2]
   exact M0 H3
 | quo items =>
  obtain ⟨hi, hl⟩ := hok
  have ha := B0 (txt := txt) (pre := pre) (v := 33 + 1) (rest := Ai items ++ 34 :: rest) (by simpa [Wd.enc] using ht)
  refine Aa (Ah (Gz U x g txt _ _ _ _ _ 33 N tk).1 hA (dl hD) H rfl rfl rfl rfl hN hT
   ⟨I4 rfl, Dm (by decide), Nk, Dh (by decide), Am ha h2 (by lia) (by lia), trivial⟩ ?_)
  intro s' H' K _ _
  intro A' hA' hD'
  refine E9 h2 items (pre ++ [34]) rest _ _ _ _ _ _ _ _ _ A' s' _ hi (by simpa [Wd.enc] using ht) (by simp; lia) (by show 0 + _ <= _; lia) hA' (Dv hD' hD) H' ?_
  intro s'' tp' tl' tok' tt' chv' e H'' K'
  refine Hl (fun M K => (Gz U x g txt _ _ _ _ _ 33 N tk).2 M K tok' tt') hA (dl hD) H'' ?_
  intro s3 H3 K3
  refine cont s3 tp' tl' tok' tt' (by rw [e]; rfl) ?_ ((K.trans K').trans (K3.mono (by simp)))
  have e2 : p + ((Wd.quo items).enc.length : Int) = p + 1 + ((Ai items).length : Int) + 1 := by simp [Wd.enc]; lia
  rw [e2]
  exact M0 H3
theorem S6 (h2 : 2 <= txt.length) (sp : Nat) (hsp : sp ∈ [10, 9, 13, 32]) (wd : Wd) (hok : wd.ok) {pre rest : List Nat} {p : Int} {tp : Nat} {ln : Int} {tl : Nat} {tt : Nat}
  (ht : txt.cps.toList = pre ++ (sp :: wd.enc ++ rest)) (hp : p = pre.length) (hA : A.handled = none) (hD : A.depth <= 399) (H : At U.W s (LU U.W x g txt p tp ln tl tt))
  (cont : Jw U.W x g txt s (p + 1 + wd.enc.length) (wd.ln (B3 ln sp)) wd.val R) :
  codeAny (Ak U.W) A (Ae U.P g (Ad U.P)) R s := by
 obtain ⟨N, tk, hN, hT⟩ := H.NT
 obtain ⟨c, rfl⟩ := C3 (v := sp) (by simp at hsp; lia)
 have ha := B0 (txt := txt) (pre := pre) (v := c + 1) (rest := wd.enc ++ rest) (by simpa using ht)
 have hin : Cj ⟨#[10, 9, 13, 32]⟩ ⟨#[c + 1]⟩ = true := Lk (by simpa using hsp)
 by_cases h10 : c + 1 = 10
 ·refine Aa (Ah (G7 U x g txt _ _ _ _ _ c N tk) hA (dl hD) H rfl rfl rfl rfl hN hT ⟨hin, Nk, I4 h10, Am ha h2 (by lia) (by lia), trivial⟩ ?_)
  intro s' H' K _ _
  refine ⟨rfl, Lt h2 wd hok (pre := pre ++ [c + 1]) (rest := rest) (by simpa using ht) (by simp; lia) hA hD H' ?_⟩
  intro s'' tp' tl' tok' tt' e H'' K'
  have e : B3 ln (c + 1) = ln + 1 := by unfold B3; rw [if_pos h10]
  rw [e] at cont
  exact cont s'' tp' tl' tok' tt' (by assumption) H'' (K.trans K')
 ·refine Aa (Ah (Hc U x g txt _ _ _ _ _ c N tk) hA (dl hD) H rfl rfl rfl rfl hN hT ⟨hin, Nk, Dh h10, Am ha h2 (by lia) (by lia), trivial⟩ ?_)
  intro s' H' K _ _
  refine ⟨rfl, Lt h2 wd hok (pre := pre ++ [c + 1]) (rest := rest) (by simpa using ht) (by simp; lia) hA hD H' ?_⟩
  intro s'' tp' tl' tok' tt' e H'' K'
  have e : B3 ln (c + 1) = ln := by unfold B3; rw [if_neg h10]
  rw [e] at cont
  exact cont s'' tp' tl' tok' tt' (by assumption) H'' (K.trans K')
end
noncomputable def Ll (P : Params) (N tk : Nat) : GT :=
 { L := N + 884, it := N + 884 + 2, me := N + 884 + 1, t := fun | 0 => tk + 1573 | 1 => tk + 1578 | 2 => tk + 1581 | _ => tk + 1580, h := fun | 0 => PyData.keyHash P ⟨#[115, 101, 108, 102]⟩ | 1 => PyData.keyHash P ⟨#[116, 111, 107, 101, 110]⟩ | _ => PyData.keyHash P ⟨#[102, 105, 116, 101, 114]⟩ }
section
variable (U : Fl) (x : NL) (txt : Str) (p : Int) (tp : Nat) (ln : Int) (tl : Nat) (N tk : Nat)
noncomputable abbrev Ai0 : Nat := (x2 0x2d0d0ddbbbc000000002011000000100001b00bba0a0a0aa2011000100001b00bb01)
noncomputable abbrev Fw : Res := Ay 400 U.W x.addrs 10 N tk [] (x.objs U.P txt p tp ln tl) 140 Ai0
  (.call (.ref 72) ⟨[.ref x.inst], []⟩) .base (.pure (.again (.call (.ref 72) ⟨[.ref x.inst], []⟩)))
theorem W9 : Ev 400 U.W x.addrs 10 N tk [] (x.objs U.P txt p tp ln tl) 140 Ai0
  (.call (.ref 72) ⟨[.ref x.inst], []⟩) .base (.pure (.again (.call (.ref 72) ⟨[.ref x.inst], []⟩)))
  [10, 12, 11, 0, 1, 2, 3, 4, 5, 6, 7, 8, 9] (.call (Ae U.P (Ll U.P N tk) (Ad U.P)) 1)
  (((Ll U.P N tk).objs x (A0 ((Ll U.P N tk).ents x (.str ⟨#[]⟩ (tk + 1577))) 3) ++ x.objs U.P txt p tp ln tl).map some) 3 9 [] := by
 obtain ⟨b, _⟩ := U; cases b <;> kernel_rfl
theorem Vo (M K : Nat) (tok' : Str) (tt' : Nat) : Ev 400 U.W [] 0 M K [] [] 40 0 (Fw U x txt p tp ln tl N tk).c (Fw U x txt p tp ln tl N tk).κ (Cb (Fw U x txt p tp ln tl N tk).t (.ok (.ret (.str tok' tt')))) [] (.fin (.ret (.str tok' tt'))) [] 0 0 [] := by
 obtain ⟨b, _⟩ := U; cases b <;> kernel_rfl
theorem Vr (M K : Nat) (fr : Obj) (tt' : Nat) (hch : Int) (tch : Nat) (chv : Value) :
  Ev 400 U.W [(Ll U.P N tk).L] 1 M K [] [A0 ((Ll U.P N tk).ents x (.str ⟨#[]⟩ tt')) 3] 40 0x01 (Fw U x txt p tp ln tl N tk).c (Fw U x txt p tp ln tl N tk).κ (Cb (Fw U x txt p tp ln tl N tk).t (.ok .next))
   [] (.fin (.ret (.str ⟨#[]⟩ tt'))) [] 0 0 [] := by
 obtain ⟨b, _⟩ := U; cases b <;> kernel_rfl
theorem Rm (M K : Nat) (fr : Obj) (tt' : Nat) (hch : Int) (tch : Nat) (chv : Value) :
  Ev 400 U.W [(Ll U.P N tk).L] 1 M K [] [A0 ((Ll U.P N tk).ents x (.str ⟨#[]⟩ tt') ++ [Bg hch tch chv]) 4] 40 0x01 (Fw U x txt p tp ln tl N tk).c (Fw U x txt p tp ln tl N tk).κ (Cb (Fw U x txt p tp ln tl N tk).t (.ok .next))
   [] (.fin (.ret (.str ⟨#[]⟩ tt'))) [] 0 0 [] := by
 obtain ⟨b, _⟩ := U; cases b <;> kernel_rfl
end
theorem Keeps.trans_new {X Y : List Nat} {s s' s'' : Shared} (a : Keeps X s s') (b : Keeps (Y ++ X) s' s'') (h : ∀ y ∈ Y, s.heap.objs.size <= y) : Keeps X s s'' :=
 ⟨fun c o e n => b.keep _ _ (a.keep _ _ e n) fun m => by
  rcases List.mem_append.mp m with m | m
  ·exact absurd (Heap.lt_size e) (Nat.not_lt.mpr (h c m))
  ·exact n m, Nat.le_trans a.size b.size, b.dr.trans a.dr, b.os.trans a.os⟩
section
variable {U : Fl} {x : NL} {txt : Str}
noncomputable def Mo (w : World) (x : NL) (txt : Str) (s : Shared) (p : Int) (ln : Int) (val : List Nat) (R : Result -> Shared -> Prop) : Prop :=
 ∀ s' tp' tl' (tok' : Str) tt', tok'.cps.toList = val -> At w s' (LX w x txt p tp' ln tl') -> Keeps x.addrs s s' -> R (.ok (.ret (.str tok' tt'))) s'
theorem Tc {p : Int} {tp : Nat} {ln : Int} {tl : Nat} {p' ln' : Int} {val : List Nat}
  (hA : A.handled = none) (hD : A.depth <= 390) (H : At U.W s (LX U.W x txt p tp ln tl))
  (inner : ∀ (g : GT) (tt : Nat) (A' : Around) (s' : Shared) (R' : Result -> Shared -> Prop), A'.handled = none -> A'.depth <= 399 -> At U.W s' (LU U.W x g txt p tp ln tl tt) -> Jw U.W x g txt s' p' ln' val R' ->
   codeAny (Ak U.W) A' (Ae U.P g (Ad U.P)) R' s')
  (cont : Mo U.W x txt s p' ln' val R) : codeAny (Ak U.W) A (.call (.ref 72) ⟨[.ref x.inst], []⟩) R s := by
 obtain ⟨N, tk, hN, hT⟩ := H.NT
 refine Aa (C5 (W := [10, 12, 11, 0, 1, 2, 3, 4, 5, 6, 7, 8, 9].zip ((Ll U.P N tk).objs x (A0 ((Ll U.P N tk).ents x (.str ⟨#[]⟩ (tk + 1577))) 3) ++ x.objs U.P txt p tp ln tl))
  (W9 U x txt p tp ln tl N tk) hA (dl hD) H rfl rfl rfl hN hT rfl rfl (by decide) (by decide) trivial ?_)
 intro s' H' K hTs hSz
 intro A' hA' hD'
 refine inner (Ll U.P N tk) (tk + 1577) A' s' _ hA' (Dv hD' hD) H' ?_
 intro s'' tp' tl' tok' tt' e H'' K'
 refine Hl (fun M K => Vo U x txt p tp ln tl N tk M K tok' tt') hA (dl hD) H'' ?_
 intro s3 H3 K3
 refine cont s3 tp' tl' tok' tt' e H3 ?_
 refine (K.trans_new K' ?_).trans (K3.mono (by simp))
 intro y hy
 have : y = N + 884 \/ y = N + 884 + 2 \/ y = N + 884 + 1 := by simpa [GT.addrs, Ll] using hy
 lia
theorem Ue (h2 : 2 <= txt.length) (wd : Wd) (hok : wd.ok) {pre rest : List Nat} {p : Int} {tp : Nat} {ln : Int} {tl : Nat}
  (ht : txt.cps.toList = pre ++ (wd.enc ++ rest)) (hp : p = pre.length) (hA : A.handled = none) (hD : A.depth <= 390) (H : At U.W s (LX U.W x txt p tp ln tl))
  (cont : Mo U.W x txt s (p + wd.enc.length) (wd.ln ln) wd.val R) : codeAny (Ak U.W) A (.call (.ref 72) ⟨[.ref x.inst], []⟩) R s :=
 Tc hA hD H (fun g tt A' s' R' hA' hD' H' c => Ss h2 wd hok ht hp hA' hD' H' c) cont
theorem Nm (h2 : 2 <= txt.length) (sp : Nat) (hsp : sp ∈ [10, 9, 13, 32]) (wd : Wd) (hok : wd.ok) {pre rest : List Nat} {p : Int} {tp : Nat} {ln : Int} {tl : Nat}
  (ht : txt.cps.toList = pre ++ (sp :: wd.enc ++ rest)) (hp : p = pre.length) (hA : A.handled = none) (hD : A.depth <= 390) (H : At U.W s (LX U.W x txt p tp ln tl))
  (cont : Mo U.W x txt s (p + 1 + wd.enc.length) (wd.ln (B3 ln sp)) wd.val R) : codeAny (Ak U.W) A (.call (.ref 72) ⟨[.ref x.inst], []⟩) R s :=
 Tc hA hD H (fun g tt A' s' R' hA' hD' H' c => S6 h2 sp hsp wd hok ht hp hA' hD' H' c) cont
end
end Mine
section
open PySem.Builtin
namespace Mine
theorem Hr {M : Model} {f : Value} {pos : List Value} {Q : Value -> Shared -> Prop} {E : Value -> Shared -> Prop}
  (hc : codeAny M A (.call f ⟨pos, []⟩) (fun r s' => match r with | .ok (.ret v) => Q v s' | .ok _ => False | .error e => E e s') s) : wpAny M A (callBorrowed f pos) Q E s := fun Γ p hΓ => by
 unfold callBorrowed
 rw [Sem.wp_call]
 have h := hc _ p rfl (hΓ.enter (.call f ⟨pos, []⟩) none p (by intro x; cases x))
 refine PySem.wpCode_mono (fun r s' hr => ?_) h
 cases r with
 | error e => exact hr
 | ok fl => cases fl <;> exact hr
noncomputable def I1 (t : Nat) : Obj := ⟨.type "StopIteration", none, .fields #[.ref t, .none, .none, .none, .bool false, .none], #[]⟩
theorem O6 : ∀ t : Value, (#[t, Value.none, Value.none, Value.none, Value.bool false, if ((Manifest.find? "StopIteration").elim false fun t => t.mro.contains "StopIteration" || t.mro.contains "SystemExit") = true then ([] : List Value).headD Value.none else Value.none] ++ ownMembersOf (Value.type "StopIteration") []) = #[t, .none, .none, .none, .bool false, .none] := by
 intro t
 have h1 : (if ((Manifest.find? "StopIteration").elim false fun t => t.mro.contains "StopIteration" || t.mro.contains "SystemExit") = true then ([] : List Value).headD Value.none else Value.none) = Value.none := by split <;> rfl
 have h2 : ownMembersOf (Value.type "StopIteration") [] = #[] := by unfold ownMembersOf; split <;> first | rfl | (rename_i h; revert h; decide) | simp_all
 rw [h1, h2]
 rfl
theorem V3 (P : Shared -> Prop) {w : World} {it me inst : Nat} {u : Nat} {Vk : Obj} {fd : FuncData} (hA : A.handled = none)
  (hi : s.heap.get? it = some ⟨.type "callable_iterator", none, .fields #[.ref me, .str ⟨#[]⟩ u, .bool false], #[]⟩)
  (hm : s.heap.get? me = some ⟨.type "method", none, .fields #[.ref 65, .ref inst], #[]⟩)
  (h65 : s.heap.get? 65 = some Vk) (hfd : Vk.data = .func fd)
  (hc : ∀ R' : Result -> Shared -> Prop, (∀ s1 t, s1.heap.get? it = s.heap.get? it -> s1.heap.get? me = s.heap.get? me -> s1.heap.get? 65 = s.heap.get? 65 -> P s1 -> R' (.ok (.ret (.str ⟨#[]⟩ t))) s1) -> codeAny (Ak w) A.in1 (.call (.ref me) ⟨[], []⟩) R' s)
  (hR : ∀ s1 h' e t, P s1 -> (∀ b o, b ≠ it -> s1.heap.get? b = some o -> h'.get? b = some o) -> h'.get? e = some (I1 t) -> s1.heap.objs.size <= e -> s1.heap.objs.size <= h'.objs.size -> R (.error (.ref e)) { s1 with heap := h' }) :
  codeAny (Ak w) A (.builtin "callable_iterator.__next__" ⟨[.ref it], []⟩) R s := by
 refine codeAny_builtin (b := Builtin.«callable_iterator.__next__») (entryFor_of_tree (by kernel_rfl)) ?_
 rw [Around.under_plainId (by decide +kernel)]
 obtain ⟨hp, g, d, tk, os⟩ := s
 unfold Builtin.«callable_iterator.__next__»
 wp_walk using wpAny_loadPart' hi, wpAny_loadPart' hm, wpAny_loadPart' h65
 rw [hfd]
 wp_walk
 refine Hr (hc _ ?_)
 rintro ⟨hp1, g1, d1, tk1, os1⟩ t e1 e2 e3 hP
 rw [hi] at e1
 rw [hm] at e2
 rw [h65] at e3
 wp_walk using wpAny_loadPart' e1
 refine PyProof.Rows.eqBool_str ?_
 wp_walk using wpAny_loadPart' e1
 rw [hfd]
 wp_walk
 have hh : A.in1.handled = none := hA
 refine wpAny_raiseNew_none hh ?_
 rw [O6]
 refine hR _ _ _ _ hP ?_ (Heap.get?_push_size _ rfl) ?_ ?_
 ·intro b o hb ho
  refine Heap.get?_push_of_some _ (Heap.get?_push_of_some _ ?_)
  have sb (h : Heap) (f : Obj -> Obj) : (h.update it f).get? b = h.get? b := (Heap.SameBut.update ..).2 b hb
  rw [sb, sb, sb]
  exact ho
 ·have sz (h : Heap) (f : Obj -> Obj) : (h.update it f).objs.size = h.objs.size := (Heap.SameBut.update ..).1
  rw [Heap.size_push, sz, sz, sz]
  exact Nat.le_succ _
 ·have sz (h : Heap) (f : Obj -> Obj) : (h.update it f).objs.size = h.objs.size := (Heap.SameBut.update ..).1
  show _ <= (Heap.push _ _).objs.size
  rw [Heap.size_push, Heap.size_push, sz, sz, sz]
  exact Nat.le_trans (Nat.le_succ _) (Nat.le_succ _)
end Mine
end
section
open PySem.Builtin
namespace Mine
noncomputable def Bh (l : Nat) (i : Nat) (dd : Option Addr) (sl : Array (Option Value)) : Obj := ⟨.type "list_iterator", dd, .fields #[.ref l, .int (i : Int) 0], sl⟩
theorem At.ext {w : World} {s s' : Shared} {a : Nat} {o o' : Obj} {L : List (Nat × Obj)} (H : At w s ((a, o) :: L)) (ha : s'.heap.get? a = some o') (hk : ∀ b o, b ≠ a -> s.heap.get? b = some o -> s'.heap.get? b = some o) (hs : s.heap.objs.size <= s'.heap.objs.size)
  (hg : s'.gens = s.gens) (ht : s.toks <= s'.toks) (hd : s'.drawn = s.drawn) (ho : s'.os = s.os) : At w s' ((a, o') :: L) /\ Keeps [a] s s' := by
 have hi : 884 <= a \/ a = 105 \/ a = 847 := H.hi _ (.head _)
 have nd : (a :: L.map (·.1)).Nodup := H.nd
 refine ⟨⟨hg.trans H.gens, fun b ob hb => ⟨hk b ob ?_ (H.top b ob hb).1, (H.top b ob hb).2⟩, Nat.le_trans H.size hs, Nat.le_trans H.toks ht, ?_, nd, ?_⟩, ⟨fun b ob h1 h2 => hk b ob (fun e => h2 (by simp [e])) h1, hs, hd, ho⟩⟩
 ·intro e
  have h9 : b < 884 := (H.top b ob hb).2
  have n9 := Hv hb
  rw [e] at h9 n9
  rcases hi with h | h | h
  ·exact absurd h9 (Nat.not_lt.mpr h)
  ·exact n9.1 h
  ·exact n9.2 h
 ·intro p hp
  rcases List.mem_cons.mp hp with rfl | hp
  ·exact ha
  ·refine hk _ _ (fun e => (List.nodup_cons.mp nd).1 (e ▸ List.mem_map_of_mem hp)) (H.own p (.tail _ hp))
 ·intro p hp
  rcases List.mem_cons.mp hp with rfl | hp
  ·exact hi
  ·exact H.hi p (.tail _ hp)
section
variable {w : World} {A : Around} {c : Code} {s : Shared} {E : Value -> Shared -> Prop} {Q : Option Value -> Shared -> Prop}
theorem Gm {it l i n : Nat} {dd : Option Addr} {sl : Array (Option Value)} {xs : List Value} {v : Value} {L : List (Nat × Obj)} (hx : xs[i]? = some v)
  (H : At w s ((it, Bh l i dd sl) :: (l, A9 xs n) :: L))
  (cont : ∀ s' dd' sl', At w s' ((it, Bh l (i + 1) dd' sl') :: (l, A9 xs n) :: L) -> Keeps [it] s s' -> s'.toks = s.toks -> s'.heap.objs.size = s.heap.objs.size -> Q (some v) s') :
  wpOwn (Ak w) A c (pyNext (.ref it)) Q E s := by
 refine Cr (wpAny_pyNext_list_item (l := l) (i := i) (items := Array.mk xs) (x := v) ⟨_, H.own _ (.head _), rfl, rfl⟩ ⟨_, H.own _ (.tail _ (.head _)), rfl, _, rfl⟩ (by simpa using hx) ?_)
 intro h' hi hs
 obtain ⟨⟨oc, od, oda, osl⟩, ho, hc, hd⟩ := hi
 have hc : oc = .type "list_iterator" := hc
 have hd : oda = .fields #[.ref l, .int ((i + 1 : Nat) : Int) 0] := hd
 subst hc hd
 have z := H.ext (s' := { s with heap := h' }) ho (fun b o hb e => (hs.2 b hb).trans e) (Nat.le_of_eq hs.1.symm) rfl (Nat.le_refl _) rfl rfl
 exact cont _ od osl z.1 z.2 rfl hs.1
theorem Ir {it l i n : Nat} {dd : Option Addr} {sl : Array (Option Value)} {xs : List Value} {L : List (Nat × Obj)} (hA : A.handled = none) (hx : xs.length = i)
  (H : At w s ((it, Bh l i dd sl) :: (l, A9 xs n) :: L))
  (cont : ∀ s' o', At w s' ((it, o') :: (l, A9 xs n) :: L) -> Keeps [it] s s' -> s'.toks = s.toks -> Q none s') :
  wpOwn (Ak w) A c (pyNext (.ref it)) Q E s := by
 have hi := H.own _ (.head _)
 have hl := H.own _ (.tail _ (.head _))
 dsimp only at hi hl
 have hT : s.TypeIs (.ref it) "list_iterator" := ⟨_, hi, rfl⟩
 refine Cr ?_
 unfold pyNext
 refine wpAny_bind (wpAny_attempt (wpAny_callSpecial?_slot (name := Str.ofString "__next__") hT slot_listiter_next
  (wpAny_call_entry slot_listiter_next hT entry_listiter_next ?_ (args_listiter_next _))))
 have hx' : (Array.mk xs)[(i : Int).toNat]? = none := by simp [hx]
 obtain ⟨hp, g, d, tk, os⟩ := s
 have hh : ((A.under c).in1).handled = none := by
  show (A.under c).handled = none
  exact hA
 show wpAny _ _ (field (.ref it) 0 >>= _) _ _ _
 refine wpAny_bind (wpAny_field hi rfl (x := .ref l) rfl ?_)
 show wpAny _ _ (if (Value.ref l == Value.none) = true then _ else _) _ _ _
 rw [if_neg (show ¬ ((Value.ref l == Value.none) = true) from Bool.false_ne_true)]
 refine wpAny_bind (m := field (.ref it) 1) (wpAny_field hi rfl (x := .int i 0) rfl ?_)
 refine wpAny_bind (m := seqItems? (.ref l)) (wpAny_seqItems hl rfl ?_)
 simp only [hx']
 refine wpAny_bind (wpAny_rule (wpAny_bind (wpAny_setField hi rfl (by simp) ?_)))
 wp_walk
 refine wpAny_raiseNew_none hh ?_
 refine wpAny_bind (wpAny_isInstance (T := "StopIteration") (b := true) ⟨_, Heap.get?_push_size _ rfl, rfl⟩ isSubtype_stop ?_)
 have e1 : (hp.update it (Obj.mapFields fun x => x.setIfInBounds 0 Value.none)).get? it = some _ := Heap.get?_update_self _ hi rfl
 have sb : Heap.SameBut it hp (hp.update it (Obj.mapFields fun x => x.setIfInBounds 0 Value.none)) := Heap.SameBut.update ..
 refine wpAny_pure ?_
 have key : ∀ s' : Shared, s'.heap.get? it = some (Obj.mapFields (fun x => x.setIfInBounds 0 Value.none) (Bh l i dd sl)) -> (∀ b o, b ≠ it -> hp.get? b = some o -> s'.heap.get? b = some o) -> hp.objs.size <= s'.heap.objs.size ->
   s'.gens = g -> s'.toks = tk -> s'.drawn = d -> s'.os = os -> Q none s' := fun s' a1 a2 a3 a4 a5 a6 a7 =>
  have z := H.ext (s' := s') a1 a2 a3 a4 (Nat.le_of_eq a5.symm) a6 a7
  cont s' _ z.1 z.2 a5
 refine key _ ?_ ?_ ?_ rfl rfl rfl rfl
 ·exact Heap.get?_push_of_some _ (Heap.get?_push_of_some _ e1)
 ·intro b o hb ho
  exact Heap.get?_push_of_some _ (Heap.get?_push_of_some _ ((sb.2 b hb).trans ho))
 ·show hp.objs.size <= (Heap.push _ _).objs.size
  rw [Heap.size_push, Heap.size_push, sb.1]
  lia
noncomputable def Bz (x left : Int) : Obj := ⟨.type "range_iterator", none, .fields #[.int x 0, .int left 0, .int 1 0], #[]⟩
theorem Jx {it : Nat} {x left : Int} {L : List (Nat × Obj)} (hl : 0 < left) (H : At w s ((it, Bz x left) :: L))
  (cont : ∀ s', At w s' ((it, Bz (x + 1) (left - 1)) :: L) -> Keeps [it] s s' -> s'.toks = s.toks + 1 -> Q (some (.int x s.toks)) s') :
  wpOwn (Ak w) A c (pyNext (.ref it)) Q E s := by
 refine Cr (wpAny_pyNext_range_item (x := x) (left := left) (step := 1) (H.own _ (.head _)) hl ?_)
 intro h' hi hs
 have z := H.ext (s' := { s with heap := h', toks := s.toks + 1 }) hi (fun b o hb e => (hs.2 b hb).trans e) (Nat.le_of_eq hs.1.symm) rfl (Nat.le_succ _) rfl rfl
 exact cont _ z.1 z.2 rfl
end
end Mine
end
namespace Mine
section
variable {w : World} {A : Around} {c : Code} {s : Shared} {E : Value -> Shared -> Prop} {Q : Value -> Shared -> Prop}
theorem Pb {a b : Nat} {xs : List Value} {n m : Nat} (hx : xs.length <= 1000) (ha : s.heap.get? a = some (A9 xs n)) (hb : s.heap.get? b = some (A9 [] m)) (hu : (A.under c).units + 10 < cLine) (h : Q (.bool (!xs.isEmpty)) s) :
  wpOwn (Ak w) A c (compareOp .NotEq (.ref a) (.ref b)) Q E s := by
 refine Cr ?_
 show wpAny _ _ (richCompare .NotEq (.ref a) (.ref b)) Q E s
 have hTa : s.TypeIs (.ref a) "list" := ⟨_, ha, rfl⟩
 have hTb : s.TypeIs (.ref b) "list" := ⟨_, hb, rfl⟩
 refine wpAny_richCompare_same_room hTa hTb _root_.PySem.F.slot_list_ne ?_ (by lia)
 cases xs with
 | nil =>
  refine call_meets _root_.PySem.F.slot_list_ne hTa _root_.PySem.F.entry_list_ne (_root_.PySem.F.args_list_ne_2 _ _) (SeqAt.list_neAt a b #[] #[] n m none none #[] #[] rfl (fun _ => true)) ⟨ha, hb, (by intro j h1; cases h1), ?_⟩
  exact ⟨(by intro e; cases e), h⟩
 | cons x xs =>
  refine call_meets _root_.PySem.F.slot_list_ne hTa _root_.PySem.F.entry_list_ne (_root_.PySem.F.args_list_ne_2 _ _) (SeqAt.list_ne_lengthsAt a b (Array.mk (x :: xs)) #[] n m none none #[] #[] (by simp)) ⟨ha, hb, ?_⟩
  exact ⟨(by intro e; cases e), h⟩
end
section
variable (U : Fl) (x : NL) (g : GT) (txt : Str) (p : Int) (tp : Nat) (ln : Int) (tl : Nat) (fr : Obj) (N tk : Nat)
noncomputable def La (it : Nat) : Code := .call (.builtin "callable_iterator.__next__") ⟨[.ref it], []⟩
noncomputable abbrev Uw : Res := Ay 400 U.W (g.addrs ++ x.addrs) 13 N tk [] (g.objs x fr ++ x.objs U.P txt p tp ln tl) 30 0x020200
  (Ae U.P g (Ad U.P)) .base (.pure (.again (Ae U.P g (Ad U.P))))
theorem Anb : Ev 400 U.W (g.addrs ++ x.addrs) 13 N tk [] (g.objs x fr ++ x.objs U.P txt p tp ln tl) 30 0x020200
  (Ae U.P g (Ad U.P)) .base (.pure (.again (Ae U.P g (Ad U.P))))
  [0, 1, 2, 3, 4, 5, 6, 7, 8, 9, 10, 11, 12] (.call (La g.it) 1) ((g.objs x fr ++ x.objs U.P txt p tp ln tl).map some) 0 0 [] := by
 kernel_rfl
theorem Ams : Ev 400 U.W (g.addrs ++ x.addrs) 13 N tk [] (g.objs x fr ++ x.objs U.P txt p tp ln tl) 30 0x020200
  (La g.it) .base (.pure (.again (La g.it)))
  [0, 1, 2, 3, 4, 5, 6, 7, 8, 9, 10, 11, 12] (.again (.builtin "callable_iterator.__next__" ⟨[.ref g.it], []⟩)) ((g.objs x fr ++ x.objs U.P txt p tp ln tl).map some) 0 0 [] := by
 kernel_rfl
theorem Amr : Ev 400 U.W (g.addrs ++ x.addrs) 13 N tk [.s ⟨#[]⟩] (g.objs x fr ++ x.objs U.P txt p tp ln tl) 170
  (x2 0xe40eee0ff84f0c0c0cccb00c0c0cccbaccc0c0cc00c0c0ccb000ff0ff913f8766606066665044000400004e00ee0130)
  (.call (.ref g.me) ⟨[], []⟩) .base (.pure (.again (.call (.ref g.me) ⟨[], []⟩)))
  [0, 1, 2, 3, 4, 5, 6, 7, 8, 9, 10, 11, 12] (.fin (.ret (.str ⟨#[]⟩ (tk + 1585)))) ((g.objs x fr ++ x.objs U.P txt (p+1) (tk+1580) ln tl).map some) 3 15
  [Bo ⟨#[]⟩ ⟨#[10]⟩ = false, Ba txt (p+1-1) (p+1) ⟨#[]⟩] := by
 obtain ⟨b, _⟩ := U; cases b <;> kernel_rfl
theorem Am7 (M K e t : Nat) : Ev 400 U.W [e] 1 M K [] [I1 t] 30 0x0001
  (Uw U x g txt p tp ln tl fr N tk).c (Uw U x g txt p tp ln tl fr N tk).κ (Cb (Uw U x g txt p tp ln tl fr N tk).t (.error (.ref e)))
  [] (.fin .next) [] 0 0 [] := by
 kernel_rfl
theorem Ak0 : (match (Mq U.P).get 65 with | some o => (match o.data with | .func _ => true | _ => false) | none => false) = true := by kernel_rfl
end
section
variable {U : Fl} {x : NL} {g : GT} {txt : Str}
noncomputable abbrev LF (w : World) (x : NL) (g : GT) (fr : Obj) (txt : Str) (p : Int) (tp : Nat) (ln : Int) (tl : Nat) : List (Nat × Obj) :=
 (g.addrs ++ x.addrs).zip (g.objs x fr ++ x.objs w.params txt p tp ln tl)
theorem Iw (h1 : 1 <= txt.length) {fr : Obj} {p : Int} {tp : Nat} {ln : Int} {tl : Nat}
  (hp : p = txt.length) (hA : A.handled = none) (hD : A.depth <= 395) (H : At U.W s (LF U.W x g fr txt p tp ln tl))
  (cont : ∀ s' tp', At U.W s' ((g.L, fr) :: LX U.W x txt (p + 1) tp' ln tl) -> Keeps (g.addrs ++ x.addrs) s s' -> R (.ok .next) s') :
  codeAny (Ak U.W) A (Ae U.P g (Ad U.P)) R s := by
 obtain ⟨N, tk, hN, hT⟩ := H.NT
 refine Aa (Ah (Anb U x g txt p tp ln tl fr N tk) hA (dl hD) H rfl rfl rfl rfl hN hT trivial ?_)
 intro s1 H1 K1 _ _
 intro A' hA' hD'
 obtain ⟨N1, tk1, hN1, hT1⟩ := H1.NT
 refine Aa (Ah (Ams U x g txt p tp ln tl fr N1 tk1) hA' (Dv hD' hD) H1 rfl rfl rfl rfl hN1 hT1 trivial ?_)
 intro s2 H2 K2 _ _
 refine ⟨Code.quiet_builtin _ (by decide +kernel), ?_⟩
 obtain ⟨Vk, fd, h65, hfd⟩ : ∃ o fd, (Mq U.P).get 65 = some o /\ o.data = .func fd := by
  have := Ak0 U
  split at this
  ·rename_i o ho
   split at this
   ·rename_i fd hfd
    exact ⟨o, fd, ho, hfd⟩
   ·cases this
  ·cases this
 have hlist : ∀ {s' : Shared} {p' : Int} {tp' : Nat}, At U.W s' (LF U.W x g fr txt p' tp' ln tl) ->
   s'.heap.get? g.it = some ⟨.type "callable_iterator", none, .fields #[.ref g.me, .str ⟨#[]⟩ (g.t 3), .bool false], #[]⟩ /\ s'.heap.get? g.me = some ⟨.type "method", none, .fields #[.ref 65, .ref x.inst], #[]⟩ := fun H =>
  ⟨H.own _ (.tail _ (.head _)), H.own _ (.tail _ (.tail _ (.head _)))⟩
 refine V3 (fun s3 => ∃ tp', At U.W s3 (LF U.W x g fr txt (p + 1) tp' ln tl) /\ Keeps (g.addrs ++ x.addrs) s s3) hA' (hlist H2).1 (hlist H2).2 (H2.top _ _ h65).1 hfd ?_ ?_
 ·intro R' hR'
  obtain ⟨N2, tk2, hN2, hT2⟩ := H2.NT
  refine Aa (Ah (Amr U x g txt p tp ln tl fr N2 tk2) (by exact hA') (by show A'.in1.depth <= 400; have : A'.in1.depth = A'.depth := rfl; lia) H2 rfl rfl rfl rfl hN2 hT2
   ⟨rfl, Zr (p := txt.length) rfl h1 (by lia) (by lia), trivial⟩ ?_)
  intro s3 H3 K3 _ _
  exact hR' s3 _ (by rw [(hlist H2).1, (hlist H3).1]) (by rw [(hlist H2).2, (hlist H3).2]) (by rw [(H2.top _ _ h65).1, (H3.top _ _ h65).1]) ⟨_, H3, (K1.trans K2).trans K3⟩
 ·rintro s3 h' e t ⟨tp', H3, K3⟩ keep he hle hsz
  have hne : ∀ q ∈ (g.L, fr) :: LX U.W x txt (p + 1) tp' ln tl, q.1 ≠ g.it /\ q ∈ LF U.W x g fr txt (p + 1) tp' ln tl := by
   have nd := H3.nd
   have e1 : (LF U.W x g fr txt (p + 1) tp' ln tl).map (·.1) = g.L :: g.it :: g.me :: x.addrs := rfl
   rw [e1] at nd
   obtain ⟨n1, n2⟩ := List.nodup_cons.mp nd
   obtain ⟨n3, n4⟩ := List.nodup_cons.mp n2
   intro q hq
   rcases List.mem_cons.mp hq with rfl | hq
   ·exact ⟨fun e => n1 (e ▸ .head _), .head _⟩
   ·refine ⟨fun e => n3 (.tail _ ?_), .tail _ (.tail _ (.tail _ hq))⟩
    have := List.mem_map_of_mem (f := (·.1)) hq
    rw [e] at this
    exact this
  have hit : 884 <= g.it \/ g.it = 105 \/ g.it = 847 := H3.hi _ (.tail _ (.head _))
  have nd3 : (((g.L, fr) :: LX U.W x txt (p + 1) tp' ln tl).map (·.1)).Nodup := by
   have nd := H3.nd
   have e1 : (LF U.W x g fr txt (p + 1) tp' ln tl).map (·.1) = g.L :: g.it :: g.me :: x.addrs := rfl
   rw [e1] at nd
   show (g.L :: x.addrs).Nodup
   obtain ⟨n1, n2⟩ := List.nodup_cons.mp nd
   exact List.nodup_cons.mpr ⟨fun m => n1 (.tail _ (.tail _ m)), (List.nodup_cons.mp (List.nodup_cons.mp n2).2).2⟩
  have H4 : At U.W { s3 with heap := h' } ([(e, I1 t)] ++ ((g.L, fr) :: LX U.W x txt (p + 1) tp' ln tl)) := {
   gens := H3.gens
   top := fun a o ha => ⟨keep _ _ (fun q => by have := (H3.top a o ha).2; have := Hv ha; lia) (H3.top a o ha).1, (H3.top a o ha).2⟩
   size := Nat.le_trans H3.size hsz
   toks := H3.toks
   own := fun q hq => by
    rcases List.mem_cons.mp hq with rfl | hq
    ·exact he
    ·exact keep _ _ (hne q hq).1 (H3.own _ (hne q hq).2)
   nd := by
    show (e :: _).Nodup
    refine List.nodup_cons.mpr ⟨fun m => ?_, nd3⟩
    obtain ⟨q, hq, e'⟩ := List.mem_map.mp m
    have := Heap.lt_size (H3.own _ (hne q hq).2)
    exact absurd (e' ▸ this) (Nat.not_lt.mpr hle)
   hi := fun q hq => by
    rcases List.mem_cons.mp hq with rfl | hq
    ·exact .inl (Nat.le_trans H3.size hle)
    ·exact H3.hi _ (hne q hq).2 }
  obtain ⟨N4, tk4, hN4, hT4⟩ := H4.NT
  have H5 : At U.W { s3 with heap := h' } ([e].zip [I1 t]) := H4.sub (fun q hq => List.mem_append_left _ hq) (List.nodup_cons.mpr ⟨fun m => (by cases m), List.nodup_nil⟩)
  have K4 : Keeps (g.addrs ++ x.addrs) s { s3 with heap := h' } := ⟨fun b o hb hn => keep _ _ (fun q => hn (q ▸ .tail _ (.head _))) (K3.keep _ _ hb hn), Nat.le_trans K3.size hsz, K3.dr, K3.os⟩
  refine C5 (W := []) (Am7 U x g txt p tp ln tl fr N tk N4 tk4 e t) hA (dl hD) H5 rfl rfl rfl hN4 hT4 rfl rfl List.nodup_nil (by intro j hj; cases hj) trivial ?_
  intro s5 H6 K5 _ _
  have H7 := At.frame (L := [(e, I1 t)]) (L' := []) H4 H6 K5 (by intro q hq; cases hq)
  refine cont s5 tp' H7 ⟨fun b o hb hn => K5.keep _ _ (K4.keep _ _ hb hn) fun m => ?_, Nat.le_trans K4.size K5.size, K5.dr.trans K4.dr, K5.os.trans K4.os⟩
  have hbe : b = e := by simpa using m
  have := Heap.lt_size hb
  have h9 := K3.size
  subst hbe
  exact absurd (Nat.lt_of_lt_of_le this (Nat.le_trans h9 hle)) (Nat.lt_irrefl _)
end
section
variable {U : Fl} {x : NL} {txt : Str}
noncomputable def Ajh (g : GT) (x : NL) (tt : Nat) (fr : Obj) : Prop :=
 fr = A0 (g.ents x (.str ⟨#[]⟩ tt)) 3 \/ ∃ hch tch chv, fr = A0 (g.ents x (.str ⟨#[]⟩ tt) ++ [Bg hch tch chv]) 4
noncomputable def Aa4 (w : World) (x : NL) (g : GT) (tt : Nat) (txt : Str) (s : Shared) (p ln : Int) (R : Result -> Shared -> Prop) : Prop :=
 ∀ s' tp' tl' fr, Ajh g x tt fr -> At w s' ((g.L, fr) :: LX w x txt p tp' ln tl') -> Keeps (g.addrs ++ x.addrs) s s' -> R (.ok .next) s'
theorem Kp {p : Int} {tp : Nat} {ln : Int} {tl : Nat} {p' ln' : Int}
  (hA : A.handled = none) (hD : A.depth <= 390) (H : At U.W s (LX U.W x txt p tp ln tl))
  (inner : ∀ (g : GT) (tt : Nat) (A' : Around) (s' : Shared) (R' : Result -> Shared -> Prop), A'.handled = none -> A'.depth <= 395 -> At U.W s' (LU U.W x g txt p tp ln tl tt) -> Aa4 U.W x g tt txt s' p' ln' R' ->
   codeAny (Ak U.W) A' (Ae U.P g (Ad U.P)) R' s')
  (cont : ∀ s' tp' tl' tt', At U.W s' (LX U.W x txt p' tp' ln' tl') -> Keeps x.addrs s s' -> R (.ok (.ret (.str ⟨#[]⟩ tt'))) s') :
  codeAny (Ak U.W) A (.call (.ref 72) ⟨[.ref x.inst], []⟩) R s := by
 obtain ⟨N, tk, hN, hT⟩ := H.NT
 refine Aa (C5 (W := [10, 12, 11, 0, 1, 2, 3, 4, 5, 6, 7, 8, 9].zip ((Ll U.P N tk).objs x (A0 ((Ll U.P N tk).ents x (.str ⟨#[]⟩ (tk + 1577))) 3) ++ x.objs U.P txt p tp ln tl))
  (W9 U x txt p tp ln tl N tk) hA (dl hD) H rfl rfl rfl hN hT rfl rfl (by decide) (by decide) trivial ?_)
 intro s' H' K hTs hSz
 intro A' hA' hD'
 refine inner (Ll U.P N tk) (tk + 1577) A' s' _ hA' (Dv hD' hD) H' ?_
 intro s'' tp' tl' fr hfr H'' K'
 obtain ⟨N2, tk2, hN2, hT2⟩ := H''.NT
 have HL : At U.W s'' ([((Ll U.P N tk).L, fr)] ++ LX U.W x txt p' tp' ln' tl') := H''
 have HF : At U.W s'' [((Ll U.P N tk).L, fr)] := HL.sub (fun q hq => List.mem_append_left _ hq) (List.nodup_cons.mpr ⟨fun m => (by cases m), List.nodup_nil⟩)
 have fin : ∀ s3, At U.W s3 [] -> Keeps [(Ll U.P N tk).L] s'' s3 -> R (.ok (.ret (.str ⟨#[]⟩ (tk + 1577)))) s3 := by
  intro s3 H3 K3
  refine cont s3 tp' tl' _ (At.frame (L := [((Ll U.P N tk).L, fr)]) (L' := []) HL H3 K3 (by intro q hq; cases hq)) ?_
  refine K.trans_new (Y := (Ll U.P N tk).addrs) (K'.trans (K3.mono ?_)) ?_
  ·intro y hy
   have : y = (Ll U.P N tk).L := by simpa using hy
   rw [this]
   exact .head _
  ·intro y hy
   have : y = N + 884 \/ y = N + 884 + 2 \/ y = N + 884 + 1 := by simpa [GT.addrs, Ll] using hy
   lia
 rcases hfr with rfl | ⟨hch, tch, chv, rfl⟩
 ·exact C5 (W := []) (Vr U x txt p tp ln tl N tk N2 tk2 default (tk + 1577) 0 0 .none) hA (dl hD) HF rfl rfl rfl hN2 hT2 rfl rfl List.nodup_nil (by intro j hj; cases hj) trivial (fun s3 H3 K3 _ _ => fin s3 H3 K3)
 ·exact C5 (W := []) (Rm U x txt p tp ln tl N tk N2 tk2 default (tk + 1577) hch tch chv) hA (dl hD) HF rfl rfl rfl hN2 hT2 rfl rfl List.nodup_nil (by intro j hj; cases hj) trivial (fun s3 H3 K3 _ _ => fin s3 H3 K3)
theorem Xf (h1 : 1 <= txt.length) {p : Int} {tp : Nat} {ln : Int} {tl : Nat}
  (hp : p = txt.length) (hA : A.handled = none) (hD : A.depth <= 390) (H : At U.W s (LX U.W x txt p tp ln tl))
  (cont : ∀ s' tp' tl' tt', At U.W s' (LX U.W x txt (p + 1) tp' ln tl') -> Keeps x.addrs s s' -> R (.ok (.ret (.str ⟨#[]⟩ tt'))) s') :
  codeAny (Ak U.W) A (.call (.ref 72) ⟨[.ref x.inst], []⟩) R s :=
 Kp hA hD H (fun g tt A' s' R' hA' hD' H' c => Iw h1 hp hA' hD' H' fun s'' tp' H'' K'' => c s'' tp' _ _ (.inl rfl) H'' K'') cont
theorem Ot (h2 : 2 <= txt.length) (sp : Nat) (hsp : sp ∈ [10, 9, 13, 32]) {pre : List Nat} {p : Int} {tp : Nat} {ln : Int} {tl : Nat}
  (ht : txt.cps.toList = pre ++ [sp]) (hp : p = pre.length) (hA : A.handled = none) (hD : A.depth <= 390) (H : At U.W s (LX U.W x txt p tp ln tl))
  (cont : ∀ s' tp' tl' tt', At U.W s' (LX U.W x txt (p + 1 + 1) tp' (B3 ln sp) tl') -> Keeps x.addrs s s' -> R (.ok (.ret (.str ⟨#[]⟩ tt'))) s') :
  codeAny (Ak U.W) A (.call (.ref 72) ⟨[.ref x.inst], []⟩) R s := by
 refine Kp hA hD H (fun g tt A' s' R' hA' hD' H' cc => ?_) cont
 obtain ⟨N, tk, hN, hT⟩ := H'.NT
 obtain ⟨c, rfl⟩ := C3 (v := sp) (by simp at hsp; lia)
 have ha := B0 (txt := txt) (pre := pre) (v := c + 1) (rest := []) ht
 have hin : Cj ⟨#[10, 9, 13, 32]⟩ ⟨#[c + 1]⟩ = true := Lk (by simpa using hsp)
 have hlen : txt.length = pre.length + 1 := by
  have : txt.cps.toList.length = pre.length + 1 := by rw [ht]; simp
  show txt.cps.size = _; simpa using this
 by_cases h10 : c + 1 = 10
 ·refine Aa (Ah (G7 U x g txt _ _ _ _ _ c N tk) hA' (by lia) H' rfl rfl rfl rfl hN hT ⟨hin, Nk, I4 h10, Am ha h2 (by lia) (by lia), trivial⟩ ?_)
  intro s1 H1 K1 _ _
  refine ⟨rfl, Iw (by lia) (by rw [hlen]; lia) hA' hD' H1 fun s'' tp' H'' K'' => cc s'' tp' (tk+1590) (A0 (g.ents x (.str ⟨#[]⟩ tt) ++ [Bg (PyData.keyHash U.P ⟨#[99, 104]⟩) (tk+1593) (.str ⟨#[c+1]⟩ (tk+1585))]) 4) (.inr ⟨_, _, _, rfl⟩) ?_ (K1.trans K'')⟩
  have e : B3 ln (c + 1) = ln + 1 := by unfold B3; rw [if_pos h10]
  rw [e]; exact H''
 ·refine Aa (Ah (Hc U x g txt _ _ _ _ _ c N tk) hA' (by lia) H' rfl rfl rfl rfl hN hT ⟨hin, Nk, Dh h10, Am ha h2 (by lia) (by lia), trivial⟩ ?_)
  intro s1 H1 K1 _ _
  refine ⟨rfl, Iw (by lia) (by rw [hlen]; lia) hA' hD' H1 fun s'' tp' H'' K'' => cc s'' tp' tl (A0 (g.ents x (.str ⟨#[]⟩ tt) ++ [Bg (PyData.keyHash U.P ⟨#[99, 104]⟩) (tk+1588) (.str ⟨#[c+1]⟩ (tk+1585))]) 4) (.inr ⟨_, _, _, rfl⟩) ?_ (K1.trans K'')⟩
  have e : B3 ln (c + 1) = ln := by unfold B3; rw [if_neg h10]
  rw [e]; exact H''
end
noncomputable def Cd (w : World) (s : Str) (t tok : Nat) : Prop := Qv pw w (.builtin "len" ⟨[.str s t], []⟩) tok (.int (s.length : Int) (tok + 1)) 2
noncomputable def L4 (w : World) (a : Nat) (xs : List (Str × Nat)) (s : Str) (t tok : Nat) (r : Bool) : Prop :=
 Qn pw w (.builtin "tuple.__contains__" ⟨[.ref a, .str s t], []⟩) tok a ⟨.type "tuple", none, .seq (Array.mk (xs.map fun p => .str p.1 p.2)) 0, #[]⟩ (.bool r) 0
structure SX where
 inst : Nat
 dict : Nat
 io : Nat
 ioD : Nat
 dq1 : Nat
 dq2 : Nat
 t : Nat -> Nat
 h : Nat -> Int
noncomputable def Jm : Str := ⟨#[97, 98, 99, 100, 102, 101, 103, 104, 105, 106, 107, 108, 109, 110, 111, 112, 113, 114, 115, 116, 117, 118, 119, 120, 121, 122, 65, 66, 67, 68, 69, 70, 71, 72, 73, 74, 75, 76, 77, 78, 79, 80, 81, 82, 83, 84, 85, 86, 87, 88, 89, 90, 48, 49, 50, 51, 52, 53, 54, 55, 56, 57, 95, 223, 224, 225, 226, 227, 228, 229, 230, 231, 232, 233, 234, 235, 236, 237, 238, 239, 240, 241, 242, 243, 244, 245, 246, 248, 249, 250, 251, 252, 253, 254, 255, 192, 193, 194, 195, 196, 197, 198, 199, 200, 201, 202, 203, 204, 205, 206, 207, 208, 209, 210, 211, 212, 213, 214, 216, 217, 218, 219, 220, 221, 222]⟩
noncomputable def SX.addrs (x : SX) : List Nat := [x.inst, x.dict, x.io, x.ioD, x.dq1, x.dq2]
noncomputable def SX.objs (x : SX) (txt : Str) (p : Int) (tp : Nat) (st : Value) (ln : Int) (tl : Nat) (tok : Value) : List Obj := [
 ⟨.ref 793, some x.dict, .plain, #[]⟩,
 ⟨.type "dict", none, .dict #[⟨x.h 0, .str ⟨#[105, 110, 115, 116, 114, 101, 97, 109]⟩ (x.t 0), .ref x.io⟩, ⟨x.h 1, .str ⟨#[105, 110, 102, 105, 108, 101]⟩ (x.t 1), .none⟩, ⟨x.h 2, .str ⟨#[112, 111, 115, 105, 120]⟩ (x.t 2), .bool true⟩, ⟨x.h 3, .str ⟨#[101, 111, 102]⟩ (x.t 3), .none⟩, ⟨x.h 4, .str ⟨#[99, 111, 109, 109, 101, 110, 116, 101, 114, 115]⟩ (x.t 4), .str ⟨#[]⟩ (x.t 30)⟩, ⟨x.h 5, .str ⟨#[119, 111, 114, 100, 99, 104, 97, 114, 115]⟩ (x.t 5), .str Jm (x.t 31)⟩, ⟨x.h 6, .str ⟨#[119, 104, 105, 116, 101, 115, 112, 97, 99, 101]⟩ (x.t 6), .str ⟨#[32, 9, 13, 10]⟩ (x.t 32)⟩, ⟨x.h 7, .str ⟨#[119, 104, 105, 116, 101, 115, 112, 97, 99, 101, 95, 115, 112, 108, 105, 116]⟩ (x.t 7), .bool true⟩, ⟨x.h 8, .str ⟨#[113, 117, 111, 116, 101, 115]⟩ (x.t 8), .str ⟨#[39, 34]⟩ (x.t 33)⟩, ⟨x.h 9, .str ⟨#[101, 115, 99, 97, 112, 101]⟩ (x.t 9), .str ⟨#[92]⟩ (x.t 34)⟩, ⟨x.h 10, .str ⟨#[101, 115, 99, 97, 112, 101, 100, 113, 117, 111, 116, 101, 115]⟩ (x.t 10), .str ⟨#[34]⟩ (x.t 35)⟩, ⟨x.h 11, .str ⟨#[115, 116, 97, 116, 101]⟩ (x.t 11), st⟩, ⟨x.h 12, .str ⟨#[112, 117, 115, 104, 98, 97, 99, 107]⟩ (x.t 12), .ref x.dq1⟩, ⟨x.h 13, .str ⟨#[108, 105, 110, 101, 110, 111]⟩ (x.t 13), .int ln tl⟩, ⟨x.h 14, .str ⟨#[100, 101, 98, 117, 103]⟩ (x.t 14), .int 0 (x.t 36)⟩, ⟨x.h 15, .str ⟨#[116, 111, 107, 101, 110]⟩ (x.t 15), tok⟩, ⟨x.h 16, .str ⟨#[102, 105, 108, 101, 115, 116, 97, 99, 107]⟩ (x.t 16), .ref x.dq2⟩, ⟨x.h 17, .str ⟨#[115, 111, 117, 114, 99, 101]⟩ (x.t 17), .none⟩, ⟨x.h 18, .str ⟨#[95, 112, 117, 110, 99, 116, 117, 97, 116, 105, 111, 110, 95, 99, 104, 97, 114, 115]⟩ (x.t 18), .str ⟨#[]⟩ (x.t 37)⟩] 19, #[]⟩,
 ⟨.ref 658, some x.ioD, .plain, #[]⟩,
 ⟨.type "dict", none, .dict #[⟨x.h 20, .str ⟨#[95, 83, 116, 114, 105, 110, 103, 73, 79, 95, 95, 110, 101, 119, 108, 105, 110, 101]⟩ (x.t 20), .str ⟨#[10]⟩ (x.t 38)⟩, ⟨x.h 21, .str ⟨#[95, 83, 116, 114, 105, 110, 103, 73, 79, 95, 95, 98, 117, 102]⟩ (x.t 21), .str txt (x.t 39)⟩, ⟨x.h 22, .str ⟨#[95, 83, 116, 114, 105, 110, 103, 73, 79, 95, 95, 112, 111, 115]⟩ (x.t 22), .int p tp⟩] 3, #[]⟩,
 ⟨.type "collections.deque", none, .fields #[.none, .int 0 0], #[]⟩,
 ⟨.type "collections.deque", none, .fields #[.none, .int 0 0], #[]⟩]
structure RT where
 L : Nat
 t : Nat -> Nat
 h : Nat -> Int
noncomputable def RT.ents (g : RT) (x : SX) (q es : Value) : List DictEntry := [⟨g.h 0, .str ⟨#[115, 101, 108, 102]⟩ (g.t 0), .ref x.inst⟩, ⟨g.h 1, .str ⟨#[113, 117, 111, 116, 101, 100]⟩ (g.t 1), q⟩, ⟨g.h 2, .str ⟨#[101, 115, 99, 97, 112, 101, 100, 115, 116, 97, 116, 101]⟩ (g.t 2), es⟩]
noncomputable def Bk (h : Int) (tk : Nat) (ch : Value) : DictEntry := ⟨h, .str ⟨#[110, 101, 120, 116, 99, 104, 97, 114]⟩ tk, ch⟩
noncomputable def Wn : Stmt -> Expr | .While t .. => t | _ => .Name ⟨#[]⟩ ⟨0, 0, 0, 0⟩
noncomputable def Sv : Stmt -> List Stmt | .While _ b .. => b | _ => []
noncomputable def whE : Stmt -> List Stmt | .While _ _ e .. => e | _ => []
noncomputable def Al (P : Params) (g : RT) : Code := .whileLoop (Wn (B5 (Bl P 761) 2)) (Sv (B5 (Bl P 761) 2)) (whE (B5 (Bl P 761) 2)) (D5 P 761 760 g.L)
section
variable (U : Fl) (x : SX) (g : RT) (txt : Str) (p : Int) (tp : Nat) (ln : Int) (tl : Nat) (u : Nat) (us : List Nat) (tt ts te : Nat) (q : Bool) (es : Value) (chv : Value) (tch : Nat) (hch : Int) (c N tk : Nat)
theorem Yk : Ev 400 U.W (g.L :: x.addrs) 7 N tk [.g (.int (txt.length : Int) (tk+1596)) 2, .s ⟨#[c+1]⟩] ((A0 (g.ents x (.bool q) es) 3) :: x.objs txt p tp (.str ⟨#[32]⟩ (ts+1573)) ln tl (.str ⟨#[]⟩ tt)) 818
  (x2 0x233302000202002000021333020002020020000211a0302200020000211803022000200002113022000200002180302200020000211803022000200002110001003022000200002130220002000021003022000200002140111dddd000000b86f09950440000000400000000495550400000004040040000000049999009916f09009900910f0999934f0504400000004000000004900995044000000040000000049504400000004000000004b00bb01054000040000000400000004999a0000a00aaa000000a000000a0000aaaa010909009999001054000040000000400000004302200020000210003022000200002800880100000000000020000210)
  (Al U.P g) .base (.pure (.again (Al U.P g)))
  [0, 1, 2, 3, 4, 5, 6] (.again (Al U.P g)) (((A0 (g.ents x (.bool q) es ++ [Bk (PyData.keyHash U.P ⟨#[110, 101, 120, 116, 99, 104, 97, 114]⟩) (tk+1611) (.str ⟨#[c+1]⟩ (tk+1610))]) 4) :: x.objs txt (p+1) (tk+1600) (.str ⟨#[97]⟩ (tk+1627)) ln tl (.str ⟨#[c+1]⟩ (tk+1610))).map some) 6 57
  [Cj Jm ⟨#[c+1]⟩ = true, Cj ⟨#[92]⟩ ⟨#[c+1]⟩ = false, Cj ⟨#[]⟩ ⟨#[c+1]⟩ = false, Cj ⟨#[32, 9, 13, 10]⟩ ⟨#[c+1]⟩ = false, Bo ⟨#[c+1]⟩ ⟨#[10]⟩ = false, Ba txt p (p+1) ⟨#[c+1]⟩, ((p + (1)) : Int) < (txt.length : Int), ¬ (p : Int) >= (txt.length : Int), Cd U.W txt (x.t 39) (tk+1595)] := by
 obtain ⟨b, _⟩ := U; cases b <;> kernel_rfl
theorem Xh : Ev 400 U.W (g.L :: x.addrs) 7 N tk [.g (.int (txt.length : Int) (tk+1596)) 2, .s ⟨#[c+1]⟩, .g (.bool true) 0] ((A0 (g.ents x (.bool q) es ++ [Bk hch tch chv]) 4) :: x.objs txt p tp (.str Hs (ts+1573)) ln tl (.str (⟨⟨u :: us⟩⟩ : Str) tt)) 998
  (x2 0x23330200020200200002e0130220002000021a030220002000021180302200020000211302200020000218030220002000021130220002000021003022000200002180302200020000211803022000200002110001dc8fe0ee30220002000021003022000200002130220002000021003022000200002130220002000021003022000200002130220002000021003022000200002140111dddd000000b86f09950440000000400000000495550400000004040040000000049999009916f09009900910f0999934f0504400000004000000004900995044000000040000000049504400000004000000004b00bb01054000040000000400000004999a0000a00aaa000000a000000a0000aaaa010909009999001054000040000000400000004302200020000210003022000200002800880100000000000020000210)
  (Al U.P g) .base (.pure (.again (Al U.P g)))
  [0, 1, 2, 3, 4, 5, 6] (.again (Al U.P g)) (((A0 (g.ents x (.bool q) es ++ [Bk hch tch (.str ⟨#[c+1]⟩ (tk+1610))]) 4) :: x.objs txt (p+1) (tk+1600) (.str ⟨#[97]⟩ (ts+1573)) ln tl (.str ((⟨⟨u :: us⟩⟩ : Str) ++ ⟨#[c+1]⟩) (tk+1637))).map some) 7 67
  [((⟨⟨u :: us⟩⟩ : Str) : Str).length ≠ 0, (⟨#[c+1]⟩ : Str).length ≠ 0, ((⟨⟨u :: us⟩⟩ : Str) ++ ⟨#[c+1]⟩ : Str).length <= sizeLine, Cj Jm ⟨#[c+1]⟩ = true, Cj ⟨#[92]⟩ ⟨#[c+1]⟩ = false, Cj ⟨#[39, 34]⟩ ⟨#[c+1]⟩ = false, Cj ⟨#[]⟩ ⟨#[c+1]⟩ = false, Cj ⟨#[32, 9, 13, 10]⟩ ⟨#[c+1]⟩ = false, L4 U.W (N+890) [(⟨#[97]⟩, (tk+1623)), (⟨#[99]⟩, (tk+1624))] ⟨#[97]⟩ (ts+1573) (tk+1625) true, Bo ⟨#[c+1]⟩ ⟨#[10]⟩ = false, Ba txt p (p+1) ⟨#[c+1]⟩, ((p + (1)) : Int) < (txt.length : Int), ¬ (p : Int) >= (txt.length : Int), Cd U.W txt (x.t 39) (tk+1595)] := by
 obtain ⟨b, _⟩ := U; cases b <;> kernel_rfl
theorem Xe : Ev 400 U.W (g.L :: x.addrs) 7 N tk [.g (.int (txt.length : Int) (tk+1596)) 2, .s ⟨#[c+1]⟩, .g (.bool true) 0, .g (.int ((⟨⟨u :: us⟩⟩ : Str).length : Int) (tk+1635)) 2] ((A0 (g.ents x (.bool q) es ++ [Bk hch tch chv]) 4) :: x.objs txt p tp (.str Hs (ts+1573)) ln tl (.str (⟨⟨u :: us⟩⟩ : Str) tt)) 859
  (x2 0x3af30220002000021333020002020020000210030220002000021a03022000200002110001dc8fe0ee30220002000021003022000200002130220002000021003022000200002130220002000021003022000200002130220002000021003022000200002140111dddd000000b86f09950440000000400000000495550400000004040040000000049999009916f09009900910f0999934f0504400000004000000004900995044000000040000000049504400000004000000004b00bb01054000040000000400000004999a0000a00aaa000000a000000a0000aaaa010909009999001054000040000000400000004302200020000210003022000200002800880100000000000020000210)
  (Al U.P g) .base (.pure (.again (Al U.P g)))
  [0, 1, 2, 3, 4, 5, 6] (.fin .next) (((A0 (g.ents x (.bool q) es ++ [Bk hch tch (.str ⟨#[c+1]⟩ (tk+1610))]) 4) :: x.objs txt (p+1) (tk+1600) (.str ⟨#[32]⟩ (tk+1630)) ln tl (.str (⟨⟨u :: us⟩⟩ : Str) tt)).map some) 7 63
  [Cd U.W (⟨⟨u :: us⟩⟩ : Str) tt (tk+1634), Cj ⟨#[32, 9, 13, 10]⟩ ⟨#[c+1]⟩ = true, L4 U.W (N+890) [(⟨#[97]⟩, (tk+1623)), (⟨#[99]⟩, (tk+1624))] ⟨#[97]⟩ (ts+1573) (tk+1625) true, Bo ⟨#[c+1]⟩ ⟨#[10]⟩ = false, Ba txt p (p+1) ⟨#[c+1]⟩, ((p + (1)) : Int) < (txt.length : Int), ¬ (p : Int) >= (txt.length : Int), Cd U.W txt (x.t 39) (tk+1595)] := by
 obtain ⟨b, _⟩ := U; cases b <;> kernel_rfl
theorem Zu : Ev 400 U.W (g.L :: x.addrs) 7 N tk [.g (.int (txt.length : Int) (tk+1596)) 2, .s ⟨#[c+1]⟩] ((A0 (g.ents x (.bool q) es) 3) :: x.objs txt p tp (.str ⟨#[32]⟩ (ts+1573)) ln tl (.str ⟨#[]⟩ tt)) 896
  (x2 0x233302000202002000021130220002000021a0302200020000211803022000200002e00ee010000000000002000021180302200020000211803022000200002113022000200002180302200020000211803022000200002110001003022000200002130220002000021003022000200002140111dddd000000b86f09950440000000400000000495550400000004040040000000049999009916f09009900910f0999934f0504400000004000000004900995044000000040000000049504400000004000000004b00bb01054000040000000400000004999a0000a00aaa000000a000000a0000aaaa010909009999001054000040000000400000004302200020000210003022000200002800880100000000000020000210)
  (Al U.P g) .base (.pure (.again (Al U.P g)))
  [0, 1, 2, 3, 4, 5, 6] (.again (Al U.P g)) (((A0 (g.ents x (.bool q) es ++ [Bk (PyData.keyHash U.P ⟨#[110, 101, 120, 116, 99, 104, 97, 114]⟩) (tk+1611) (.str ⟨#[c+1]⟩ (tk+1610))]) 4) :: x.objs txt (p+1) (tk+1600) (.str ⟨#[c+1]⟩ (tk+1610)) ln tl (.str ⟨#[]⟩ tt)).map some) 7 59
  [Cj ⟨#[39, 34]⟩ ⟨#[c+1]⟩ = true, Cj ⟨#[]⟩ ⟨#[c+1]⟩ = false, Cj Jm ⟨#[c+1]⟩ = false, Cj ⟨#[92]⟩ ⟨#[c+1]⟩ = false, Cj ⟨#[]⟩ ⟨#[c+1]⟩ = false, Cj ⟨#[32, 9, 13, 10]⟩ ⟨#[c+1]⟩ = false, Bo ⟨#[c+1]⟩ ⟨#[10]⟩ = false, Ba txt p (p+1) ⟨#[c+1]⟩, ((p + (1)) : Int) < (txt.length : Int), ¬ (p : Int) >= (txt.length : Int), Cd U.W txt (x.t 39) (tk+1595)] := by
 obtain ⟨b, _⟩ := U; cases b <;> kernel_rfl
theorem Ze : Ev 400 U.W (g.L :: x.addrs) 7 N tk [.g (.int (txt.length : Int) (tk+1596)) 2, .s ⟨#[c+1]⟩] ((A0 (g.ents x (.bool q) es ++ [Bk hch tch chv]) 4) :: x.objs txt p tp (.str Mr (ts+1573)) ln tl (.str ⟨#[]⟩ tt)) 815
  (x2 0x2333020002020020000200130220002000021803022000200002113022000200002140302200020000211000111003022000200002130220002000021003022000200002130220002000021003022000200002140111dddd000000b86f09950440000000400000000495550400000004040040000000049999009916f09009900910f0999934f0504400000004000000004900995044000000040000000049504400000004000000004b00bb01054000040000000400000004999a0000a00aaa000000a000000a0000aaaa010909009999001054000040000000400000004302200020000210003022000200002800880100000000000020000210)
  (Al U.P g) .base (.pure (.again (Al U.P g)))
  [0, 1, 2, 3, 4, 5, 6] (.again (Al U.P g)) (((A0 (g.ents x (.bool true) es ++ [Bk hch tch (.str ⟨#[c+1]⟩ (tk+1610))]) 4) :: x.objs txt (p+1) (tk+1600) (.str ⟨#[34]⟩ (ts+1573)) ln tl (.str ⟨#[c+1]⟩ (tk+1610))).map some) 6 56
  [Cj ⟨#[92]⟩ ⟨#[c+1]⟩ = false, Bo ⟨#[c+1]⟩ ⟨#[34]⟩ = false, Bo ⟨#[c+1]⟩ ⟨#[10]⟩ = false, Ba txt p (p+1) ⟨#[c+1]⟩, ((p + (1)) : Int) < (txt.length : Int), ¬ (p : Int) >= (txt.length : Int), Cd U.W txt (x.t 39) (tk+1595)] := by
 obtain ⟨b, _⟩ := U; cases b <;> kernel_rfl
theorem Xi : Ev 400 U.W (g.L :: x.addrs) 7 N tk [.g (.int (txt.length : Int) (tk+1596)) 2, .s ⟨#[c+1]⟩] ((A0 (g.ents x (.bool q) es ++ [Bk hch tch chv]) 4) :: x.objs txt p tp (.str Mr (ts+1573)) ln tl (.str (⟨⟨u :: us⟩⟩ : Str) tt)) 813
  (x2 0x23330200020200200002e0130220002000021803022000200002113022000200002140302200020000211000111003022000200002130220002000021003022000200002130220002000021003022000200002140111dddd000000b86f09950440000000400000000495550400000004040040000000049999009916f09009900910f0999934f0504400000004000000004900995044000000040000000049504400000004000000004b00bb01054000040000000400000004999a0000a00aaa000000a000000a0000aaaa010909009999001054000040000000400000004302200020000210003022000200002800880100000000000020000210)
  (Al U.P g) .base (.pure (.again (Al U.P g)))
  [0, 1, 2, 3, 4, 5, 6] (.again (Al U.P g)) (((A0 (g.ents x (.bool true) es ++ [Bk hch tch (.str ⟨#[c+1]⟩ (tk+1610))]) 4) :: x.objs txt (p+1) (tk+1600) (.str ⟨#[34]⟩ (ts+1573)) ln tl (.str ((⟨⟨u :: us⟩⟩ : Str) ++ ⟨#[c+1]⟩) (tk+1627))).map some) 6 57
  [((⟨⟨u :: us⟩⟩ : Str) : Str).length ≠ 0, (⟨#[c+1]⟩ : Str).length ≠ 0, ((⟨⟨u :: us⟩⟩ : Str) ++ ⟨#[c+1]⟩ : Str).length <= sizeLine, Cj ⟨#[92]⟩ ⟨#[c+1]⟩ = false, Bo ⟨#[c+1]⟩ ⟨#[34]⟩ = false, Bo ⟨#[c+1]⟩ ⟨#[10]⟩ = false, Ba txt p (p+1) ⟨#[c+1]⟩, ((p + (1)) : Int) < (txt.length : Int), ¬ (p : Int) >= (txt.length : Int), Cd U.W txt (x.t 39) (tk+1595)] := by
 obtain ⟨b, _⟩ := U; cases b <;> kernel_rfl
theorem Y1 : Ev 400 U.W (g.L :: x.addrs) 7 N tk [.g (.int (txt.length : Int) (tk+1596)) 2, .s ⟨#[c+1]⟩] ((A0 (g.ents x (.bool q) es ++ [Bk hch tch chv]) 4) :: x.objs txt p tp (.str Mr (ts+1573)) ln tl (.str (⟨⟨u :: us⟩⟩ : Str) tt)) 767
  (x2 0x2333020002020020000213022000200002160302200020000211000111003022000200002130220002000021003022000200002130220002000021003022000200002140111dddd000000b86f09950440000000400000000495550400000004040040000000049999009916f09009900910f0999934f0504400000004000000004900995044000000040000000049504400000004000000004b00bb01054000040000000400000004999a0000a00aaa000000a000000a0000aaaa010909009999001054000040000000400000004302200020000210003022000200002800880100000000000020000210)
  (Al U.P g) .base (.pure (.again (Al U.P g)))
  [0, 1, 2, 3, 4, 5, 6] (.again (Al U.P g)) (((A0 (g.ents x (.bool true) es ++ [Bk hch tch (.str ⟨#[c+1]⟩ (tk+1610))]) 4) :: x.objs txt (p+1) (tk+1600) (.str ⟨#[97]⟩ (tk+1625)) ln tl (.str (⟨⟨u :: us⟩⟩ : Str) tt)).map some) 6 55
  [Bo ⟨#[c+1]⟩ ⟨#[34]⟩ = true, Bo ⟨#[c+1]⟩ ⟨#[10]⟩ = false, Ba txt p (p+1) ⟨#[c+1]⟩, ((p + (1)) : Int) < (txt.length : Int), ¬ (p : Int) >= (txt.length : Int), Cd U.W txt (x.t 39) (tk+1595)] := by
 obtain ⟨b, _⟩ := U; cases b <;> kernel_rfl
theorem Y6 : Ev 400 U.W (g.L :: x.addrs) 7 N tk [.g (.int (txt.length : Int) (tk+1596)) 2, .s ⟨#[c+1]⟩, .g (.bool true) 0, .g (.int ((⟨⟨u :: us⟩⟩ : Str).length : Int) (tk+1640)) 2] ((A0 (g.ents x (.bool q) es ++ [Bk hch tch chv]) 4) :: x.objs txt p tp (.str Hs (ts+1573)) ln tl (.str (⟨⟨u :: us⟩⟩ : Str) tt)) 909
  (x2 0x3af30220002000021333020002020020000210030220002000021a03022000200002110001dc8fe0ee3022000200002100302200020000213022000200002100302200020000213022000200002100302200020000213022000200002100302200020000213330200020200200002003022000200002160111dddd000000b86f09950440000000400000000495550400000004040040000000049999009916f09009900910f0999934f0504400000004000000004900995044000000040000000049504400000004000000004b00bb01054000040000000400000004999a0000a00aaa000000a000000a0000aaaa010909009999001054000040000000400000004302200020000210003022000200002800880100000000000020000210)
  (Al U.P g) .base (.pure (.again (Al U.P g)))
  [0, 1, 2, 3, 4, 5, 6] (.fin .next) (((A0 (g.ents x (.bool q) es ++ [Bk hch tch (.str ⟨#[c+1]⟩ (tk+1610))]) 4) :: x.objs txt (p+1) (tk+1600) (.str ⟨#[32]⟩ (tk+1635)) (ln+1) (tk+1615) (.str (⟨⟨u :: us⟩⟩ : Str) tt)).map some) 7 68
  [Cd U.W (⟨⟨u :: us⟩⟩ : Str) tt (tk+1639), Cj ⟨#[32, 9, 13, 10]⟩ ⟨#[c+1]⟩ = true, L4 U.W (N+890) [(⟨#[97]⟩, (tk+1628)), (⟨#[99]⟩, (tk+1629))] ⟨#[97]⟩ (ts+1573) (tk+1630) true, Bo ⟨#[c+1]⟩ ⟨#[10]⟩ = true, Ba txt p (p+1) ⟨#[c+1]⟩, ((p + (1)) : Int) < (txt.length : Int), ¬ (p : Int) >= (txt.length : Int), Cd U.W txt (x.t 39) (tk+1595)] := by
 obtain ⟨b, _⟩ := U; cases b <;> kernel_rfl
theorem X0 : Ev 400 U.W (g.L :: x.addrs) 7 N tk [.g (.int (txt.length : Int) (tk+1596)) 2, .s ⟨#[c+1]⟩, .g (.bool true) 0] ((A0 (g.ents x (.bool q) es ++ [Bk hch tch chv]) 4) :: x.objs txt p tp (.str Hs (ts+1573)) ln tl (.str (⟨⟨u :: us⟩⟩ : Str) tt)) 961
  (x2 0x233302000202002000021111a0302200020000211302200020000218030220002000021130220002000021003022000200002180302200020000211803022000200002110001dc8fe0ee30220002000021003022000200002130220002000021003022000200002130220002000021003022000200002130220002000021003022000200002140111dddd000000b86f09950440000000400000000495550400000004040040000000049999009916f09009900910f0999934f0504400000004000000004900995044000000040000000049504400000004000000004b00bb01054000040000000400000004999a0000a00aaa000000a000000a0000aaaa010909009999001054000040000000400000004302200020000210003022000200002800880100000000000020000210)
  (Al U.P g) .base (.pure (.again (Al U.P g)))
  [0, 1, 2, 3, 4, 5, 6] (.again (Al U.P g)) (((A0 (g.ents x (.bool q) (.str ⟨#[97]⟩ (tk+1635)) ++ [Bk hch tch (.str ⟨#[c+1]⟩ (tk+1610))]) 4) :: x.objs txt (p+1) (tk+1600) (.str ⟨#[c+1]⟩ (tk+1610)) ln tl (.str (⟨⟨u :: us⟩⟩ : Str) tt)).map some) 7 66
  [Cj ⟨#[92]⟩ ⟨#[c+1]⟩ = true, Cj ⟨#[39, 34]⟩ ⟨#[c+1]⟩ = false, Cj ⟨#[]⟩ ⟨#[c+1]⟩ = false, Cj ⟨#[32, 9, 13, 10]⟩ ⟨#[c+1]⟩ = false, L4 U.W (N+890) [(⟨#[97]⟩, (tk+1623)), (⟨#[99]⟩, (tk+1624))] ⟨#[97]⟩ (ts+1573) (tk+1625) true, Bo ⟨#[c+1]⟩ ⟨#[10]⟩ = false, Ba txt p (p+1) ⟨#[c+1]⟩, ((p + (1)) : Int) < (txt.length : Int), ¬ (p : Int) >= (txt.length : Int), Cd U.W txt (x.t 39) (tk+1595)] := by
 obtain ⟨b, _⟩ := U; cases b <;> kernel_rfl
theorem U5 : Ev 400 U.W (g.L :: x.addrs) 7 N tk [.g (.int (txt.length : Int) (tk+1596)) 2, .s ⟨#[c+1]⟩] ((A0 (g.ents x (.bool q) (.str Hs (te+1573)) ++ [Bk hch tch chv]) 4) :: x.objs txt p tp (.str ⟨#[92]⟩ (ts+1573)) ln tl (.str (⟨⟨u :: us⟩⟩ : Str) tt)) 832
  (x2 0x23330200020200200002113330200020200200002e0130220002000021003022000200002110001003022000200002130220002000021003022000200002130220002000021003022000200002130220002000021003022000200002140111dddd000000b86f09950440000000400000000495550400000004040040000000049999009916f09009900910f0999934f0504400000004000000004900995044000000040000000049504400000004000000004b00bb01054000040000000400000004999a0000a00aaa000000a000000a0000aaaa010909009999001054000040000000400000004302200020000210003022000200002800880100000000000020000210)
  (Al U.P g) .base (.pure (.again (Al U.P g)))
  [0, 1, 2, 3, 4, 5, 6] (.again (Al U.P g)) (((A0 (g.ents x (.bool q) (.str ⟨#[97]⟩ (te+1573)) ++ [Bk hch tch (.str ⟨#[c+1]⟩ (tk+1610))]) 4) :: x.objs txt (p+1) (tk+1600) (.str ⟨#[97]⟩ (te+1573)) ln tl (.str ((⟨⟨u :: us⟩⟩ : Str) ++ ⟨#[c+1]⟩) (tk+1626))).map some) 6 58
  [((⟨⟨u :: us⟩⟩ : Str) : Str).length ≠ 0, (⟨#[c+1]⟩ : Str).length ≠ 0, ((⟨⟨u :: us⟩⟩ : Str) ++ ⟨#[c+1]⟩ : Str).length <= sizeLine, Bo ⟨#[c+1]⟩ ⟨#[10]⟩ = false, Ba txt p (p+1) ⟨#[c+1]⟩, ((p + (1)) : Int) < (txt.length : Int), ¬ (p : Int) >= (txt.length : Int), Cd U.W txt (x.t 39) (tk+1595)] := by
 obtain ⟨b, _⟩ := U; cases b <;> kernel_rfl
theorem Uq : Ev 400 U.W (g.L :: x.addrs) 7 N tk [.g (.int (txt.length : Int) (tk+1596)) 2, .s ⟨#[c+1]⟩] ((A0 (g.ents x (.bool q) es) 3) :: x.objs txt p tp (.str ⟨#[32]⟩ (ts+1573)) ln tl (.str ⟨#[]⟩ tt)) 774
  (x2 0x233302000202002000021111a03022000200002113022000200002180302200020000211803022000200002110001003022000200002130220002000021003022000200002140111dddd000000b86f09950440000000400000000495550400000004040040000000049999009916f09009900910f0999934f0504400000004000000004900995044000000040000000049504400000004000000004b00bb01054000040000000400000004999a0000a00aaa000000a000000a0000aaaa010909009999001054000040000000400000004302200020000210003022000200002800880100000000000020000210)
  (Al U.P g) .base (.pure (.again (Al U.P g)))
  [0, 1, 2, 3, 4, 5, 6] (.again (Al U.P g)) (((A0 (g.ents x (.bool q) (.str ⟨#[97]⟩ (tk+1624)) ++ [Bk (PyData.keyHash U.P ⟨#[110, 101, 120, 116, 99, 104, 97, 114]⟩) (tk+1611) (.str ⟨#[c+1]⟩ (tk+1610))]) 4) :: x.objs txt (p+1) (tk+1600) (.str ⟨#[c+1]⟩ (tk+1610)) ln tl (.str ⟨#[]⟩ tt)).map some) 6 55
  [Cj ⟨#[92]⟩ ⟨#[c+1]⟩ = true, Cj ⟨#[]⟩ ⟨#[c+1]⟩ = false, Cj ⟨#[32, 9, 13, 10]⟩ ⟨#[c+1]⟩ = false, Bo ⟨#[c+1]⟩ ⟨#[10]⟩ = false, Ba txt p (p+1) ⟨#[c+1]⟩, ((p + (1)) : Int) < (txt.length : Int), ¬ (p : Int) >= (txt.length : Int), Cd U.W txt (x.t 39) (tk+1595)] := by
 obtain ⟨b, _⟩ := U; cases b <;> kernel_rfl
theorem Vi : Ev 400 U.W (g.L :: x.addrs) 7 N tk [.g (.int (txt.length : Int) (tk+1596)) 2, .s ⟨#[c+1]⟩] ((A0 (g.ents x (.bool q) (.str Hs (te+1573)) ++ [Bk hch tch chv]) 4) :: x.objs txt p tp (.str ⟨#[92]⟩ (ts+1573)) ln tl (.str ⟨#[]⟩ tt)) 834
  (x2 0x2333020002020020000211333020002020020000200130220002000021003022000200002110001003022000200002130220002000021003022000200002130220002000021003022000200002130220002000021003022000200002140111dddd000000b86f09950440000000400000000495550400000004040040000000049999009916f09009900910f0999934f0504400000004000000004900995044000000040000000049504400000004000000004b00bb01054000040000000400000004999a0000a00aaa000000a000000a0000aaaa010909009999001054000040000000400000004302200020000210003022000200002800880100000000000020000210)
  (Al U.P g) .base (.pure (.again (Al U.P g)))
  [0, 1, 2, 3, 4, 5, 6] (.again (Al U.P g)) (((A0 (g.ents x (.bool q) (.str ⟨#[97]⟩ (te+1573)) ++ [Bk hch tch (.str ⟨#[c+1]⟩ (tk+1610))]) 4) :: x.objs txt (p+1) (tk+1600) (.str ⟨#[97]⟩ (te+1573)) ln tl (.str ⟨#[c+1]⟩ (tk+1610))).map some) 6 57
  [Bo ⟨#[c+1]⟩ ⟨#[10]⟩ = false, Ba txt p (p+1) ⟨#[c+1]⟩, ((p + (1)) : Int) < (txt.length : Int), ¬ (p : Int) >= (txt.length : Int), Cd U.W txt (x.t 39) (tk+1595)] := by
 obtain ⟨b, _⟩ := U; cases b <;> kernel_rfl
noncomputable abbrev Ags : Nat := (x2 0x23330200020200200002111130220002000021003022000200002130220002000021a03022000200002113022000200002140302200020000211000111003022000200002130220002000021003022000200002130220002000021003022000200002140111dddd000000b86f09950440000000400000000495550400000004040040000000049999009916f09009900910f0999934f0504400000004000000004900995044000000040000000049504400000004000000004b00bb01054000040000000400000004999a0000a00aaa000000a000000a0000aaaa010909009999001054000040000000400000004302200020000210003022000200002800880100000000000020000210)
theorem Ud : Ev 400 U.W (g.L :: x.addrs) 7 N tk [.g (.int (txt.length : Int) (tk+1596)) 2, .s ⟨#[c+1]⟩] ((A0 (g.ents x (.bool q) es ++ [Bk hch tch chv]) 4) :: x.objs txt p tp (.str Mr (ts+1573)) ln tl (.str (⟨⟨u :: us⟩⟩ : Str) tt)) 861
  Ags
  (Al U.P g) .base (.pure (.again (Al U.P g)))
  [0, 1, 2, 3, 4, 5, 6] (.again (Al U.P g)) (((A0 (g.ents x (.bool true) (.str ⟨#[34]⟩ (ts+1573)) ++ [Bk hch tch (.str ⟨#[c+1]⟩ (tk+1610))]) 4) :: x.objs txt (p+1) (tk+1600) (.str ⟨#[c+1]⟩ (tk+1610)) ln tl (.str (⟨⟨u :: us⟩⟩ : Str) tt)).map some) 6 59
  [Cj ⟨#[92]⟩ ⟨#[c+1]⟩ = true, Bo ⟨#[c+1]⟩ ⟨#[34]⟩ = false, Bo ⟨#[c+1]⟩ ⟨#[10]⟩ = false, Ba txt p (p+1) ⟨#[c+1]⟩, ((p + (1)) : Int) < (txt.length : Int), ¬ (p : Int) >= (txt.length : Int), Cd U.W txt (x.t 39) (tk+1595)] := by
 obtain ⟨b, _⟩ := U; cases b <;> kernel_rfl
theorem U9 : Ev 400 U.W (g.L :: x.addrs) 7 N tk [.g (.int (txt.length : Int) (tk+1596)) 2, .s ⟨#[c+1]⟩] ((A0 (g.ents x (.bool q) (.str Mr (te+1573)) ++ [Bk hch tch chv]) 4) :: x.objs txt p tp (.str ⟨#[92]⟩ (ts+1573)) ln tl (.str (⟨⟨u :: us⟩⟩ : Str) tt)) 865
  (x2 0x23330200020200200002113330200020200200002e01302200020000211cf0111ef0302200020000211003022000200002110001003022000200002130220002000021003022000200002130220002000021003022000200002130220002000021003022000200002140111dddd000000b86f09950440000000400000000495550400000004040040000000049999009916f09009900910f0999934f0504400000004000000004900995044000000040000000049504400000004000000004b00bb01054000040000000400000004999a0000a00aaa000000a000000a0000aaaa010909009999001054000040000000400000004302200020000210003022000200002800880100000000000020000210)
  (Al U.P g) .base (.pure (.again (Al U.P g)))
  [0, 1, 2, 3, 4, 5, 6] (.again (Al U.P g)) (((A0 (g.ents x (.bool q) (.str ⟨#[34]⟩ (te+1573)) ++ [Bk hch tch (.str ⟨#[c+1]⟩ (tk+1610))]) 4) :: x.objs txt (p+1) (tk+1600) (.str ⟨#[34]⟩ (te+1573)) ln tl (.str ((⟨⟨u :: us⟩⟩ : Str) ++ ⟨#[c+1]⟩) (tk+1627))).map some) 6 59
  [((⟨⟨u :: us⟩⟩ : Str) : Str).length ≠ 0, (⟨#[c+1]⟩ : Str).length ≠ 0, ((⟨⟨u :: us⟩⟩ : Str) ++ ⟨#[c+1]⟩ : Str).length <= sizeLine, Pc ⟨#[c+1]⟩ ⟨#[34]⟩ = false, Pc ⟨#[c+1]⟩ ⟨#[92]⟩ = true, Bo ⟨#[c+1]⟩ ⟨#[10]⟩ = false, Ba txt p (p+1) ⟨#[c+1]⟩, ((p + (1)) : Int) < (txt.length : Int), ¬ (p : Int) >= (txt.length : Int), Cd U.W txt (x.t 39) (tk+1595)] := by
 obtain ⟨b, _⟩ := U; cases b <;> kernel_rfl
theorem Ve : Ev 400 U.W (g.L :: x.addrs) 7 N tk [.g (.int (txt.length : Int) (tk+1596)) 2, .s ⟨#[c+1]⟩, .g (.bool true) 0, .g (.int ((⟨⟨u :: us⟩⟩ : Str).length : Int) (tk+1638)) 2] ((A0 (g.ents x (.bool q) es ++ [Bk hch tch chv]) 4) :: x.objs txt p tp (.str Hs (ts+1573)) ln tl (.str (⟨⟨u :: us⟩⟩ : Str) tt)) 892
  (x2 0x3af30220002000021333020002020020000210030220002000021a03022000200002110001dc8fe0ee3022000200002100302200020000213022000200002100302200020000213022000200002100302200020000213022000200002100302200020000213330200020200200002003022000200002160111dddd000000b86f09950440000000400000000495550400000004040040000000049914f09009900910f0999934f0504400000004000000004900995044000000040000000049504400000004000000004b00bb01054000040000000400000004999a0000a00aaa000000a000000a0000aaaa010909009999001054000040000000400000004302200020000210003022000200002800880100000000000020000210)
  (Al U.P g) .base (.pure (.again (Al U.P g)))
  [0, 1, 2, 3, 4, 5, 6] (.fin .next) (((A0 (g.ents x (.bool q) es ++ [Bk hch tch (.str ⟨#[c+1]⟩ (tk+1608))]) 4) :: x.objs txt (txt.length : Int) (tk+1596) (.str ⟨#[32]⟩ (tk+1633)) (ln+1) (tk+1613) (.str (⟨⟨u :: us⟩⟩ : Str) tt)).map some) 7 66
  [Cd U.W (⟨⟨u :: us⟩⟩ : Str) tt (tk+1637), Cj ⟨#[32, 9, 13, 10]⟩ ⟨#[c+1]⟩ = true, L4 U.W (N+890) [(⟨#[97]⟩, (tk+1626)), (⟨#[99]⟩, (tk+1627))] ⟨#[97]⟩ (ts+1573) (tk+1628) true, Bo ⟨#[c+1]⟩ ⟨#[10]⟩ = true, Ba txt p (txt.length : Int) ⟨#[c+1]⟩, ¬ ((p + (1)) : Int) < (txt.length : Int), ¬ (p : Int) >= (txt.length : Int), Cd U.W txt (x.t 39) (tk+1595)] := by
 obtain ⟨b, _⟩ := U; cases b <;> kernel_rfl
theorem Up : Ev 400 U.W (g.L :: x.addrs) 7 N tk [.g (.int (txt.length : Int) (tk+1596)) 2] ((A0 (g.ents x (.bool q) es) 3) :: x.objs txt p tp (.str ⟨#[32]⟩ (ts+1573)) ln tl (.str ⟨#[]⟩ tt)) 535
  (x2 0x33302000202002000021000100302200020000213022000200002100302200020000210011112f0999934f0504400000004000000004900995044000000040000000049504400000004000000004b00bb01054000040000000400000004999a0000a00aaa000000a000000a0000aaaa010909009999001054000040000000400000004302200020000210003022000200002800880100000000000020000210)
  (Al U.P g) .base (.pure (.again (Al U.P g)))
  [0, 1, 2, 3, 4, 5, 6] (.fin .next) (((A0 (g.ents x (.bool q) es ++ [Bk (PyData.keyHash U.P ⟨#[110, 101, 120, 116, 99, 104, 97, 114]⟩) (tk+1599) (.str ⟨#[]⟩ (tk+1598))]) 4) :: x.objs txt p tp .none ln tl (.str ⟨#[]⟩ tt)).map some) 4 37
  [(p : Int) >= (txt.length : Int), Cd U.W txt (x.t 39) (tk+1595)] := by
 obtain ⟨b, _⟩ := U; cases b <;> kernel_rfl
theorem Uv : Ev 400 U.W (g.L :: x.addrs) 7 N tk [.g (.int (txt.length : Int) (tk+1596)) 2, .s ⟨#[c+1]⟩, .g (.bool true) 0, .g (.int ((⟨⟨u :: us⟩⟩ : Str).length : Int) (tk+1633)) 2] ((A0 (g.ents x (.bool q) es ++ [Bk hch tch chv]) 4) :: x.objs txt p tp (.str Hs (ts+1573)) ln tl (.str (⟨⟨u :: us⟩⟩ : Str) tt)) 842
  (x2 0x3af30220002000021333020002020020000210030220002000021a03022000200002110001dc8fe0ee30220002000021003022000200002130220002000021003022000200002130220002000021003022000200002130220002000021003022000200002140111dddd000000b86f09950440000000400000000495550400000004040040000000049914f09009900910f0999934f0504400000004000000004900995044000000040000000049504400000004000000004b00bb01054000040000000400000004999a0000a00aaa000000a000000a0000aaaa010909009999001054000040000000400000004302200020000210003022000200002800880100000000000020000210)
  (Al U.P g) .base (.pure (.again (Al U.P g)))
  [0, 1, 2, 3, 4, 5, 6] (.fin .next) (((A0 (g.ents x (.bool q) es ++ [Bk hch tch (.str ⟨#[c+1]⟩ (tk+1608))]) 4) :: x.objs txt (txt.length : Int) (tk+1596) (.str ⟨#[32]⟩ (tk+1628)) ln tl (.str (⟨⟨u :: us⟩⟩ : Str) tt)).map some) 7 61
  [Cd U.W (⟨⟨u :: us⟩⟩ : Str) tt (tk+1632), Cj ⟨#[32, 9, 13, 10]⟩ ⟨#[c+1]⟩ = true, L4 U.W (N+890) [(⟨#[97]⟩, (tk+1621)), (⟨#[99]⟩, (tk+1622))] ⟨#[97]⟩ (ts+1573) (tk+1623) true, Bo ⟨#[c+1]⟩ ⟨#[10]⟩ = false, Ba txt p (txt.length : Int) ⟨#[c+1]⟩, ¬ ((p + (1)) : Int) < (txt.length : Int), ¬ (p : Int) >= (txt.length : Int), Cd U.W txt (x.t 39) (tk+1595)] := by
 obtain ⟨b, _⟩ := U; cases b <;> kernel_rfl
theorem Vm : Ev 400 U.W (g.L :: x.addrs) 7 N tk [.g (.int (txt.length : Int) (tk+1596)) 2, .s ⟨#[c+1]⟩] ((A0 (g.ents x (.bool q) es ++ [Bk hch tch chv]) 4) :: x.objs txt p tp (.str Mr (ts+1573)) ln tl (.str ⟨#[]⟩ tt)) 861
  Ags
  (Al U.P g) .base (.pure (.again (Al U.P g)))
  [0, 1, 2, 3, 4, 5, 6] (.again (Al U.P g)) (((A0 (g.ents x (.bool true) (.str ⟨#[34]⟩ (ts+1573)) ++ [Bk hch tch (.str ⟨#[c+1]⟩ (tk+1610))]) 4) :: x.objs txt (p+1) (tk+1600) (.str ⟨#[c+1]⟩ (tk+1610)) ln tl (.str ⟨#[]⟩ tt)).map some) 6 59
  [Cj ⟨#[92]⟩ ⟨#[c+1]⟩ = true, Bo ⟨#[c+1]⟩ ⟨#[34]⟩ = false, Bo ⟨#[c+1]⟩ ⟨#[10]⟩ = false, Ba txt p (p+1) ⟨#[c+1]⟩, ((p + (1)) : Int) < (txt.length : Int), ¬ (p : Int) >= (txt.length : Int), Cd U.W txt (x.t 39) (tk+1595)] := by
 obtain ⟨b, _⟩ := U; cases b <;> kernel_rfl
theorem Vb : Ev 400 U.W (g.L :: x.addrs) 7 N tk [.g (.int (txt.length : Int) (tk+1596)) 2, .s ⟨#[c+1]⟩] ((A0 (g.ents x (.bool q) (.str Mr (te+1573)) ++ [Bk hch tch chv]) 4) :: x.objs txt p tp (.str ⟨#[92]⟩ (ts+1573)) ln tl (.str ⟨#[]⟩ tt)) 859
  (x2 0x23330200020200200002113330200020200200002001302200020000211cf0302200020000211003022000200002110001003022000200002130220002000021003022000200002130220002000021003022000200002130220002000021003022000200002140111dddd000000b86f09950440000000400000000495550400000004040040000000049999009916f09009900910f0999934f0504400000004000000004900995044000000040000000049504400000004000000004b00bb01054000040000000400000004999a0000a00aaa000000a000000a0000aaaa010909009999001054000040000000400000004302200020000210003022000200002800880100000000000020000210)
  (Al U.P g) .base (.pure (.again (Al U.P g)))
  [0, 1, 2, 3, 4, 5, 6] (.again (Al U.P g)) (((A0 (g.ents x (.bool q) (.str ⟨#[34]⟩ (te+1573)) ++ [Bk hch tch (.str ⟨#[c+1]⟩ (tk+1610))]) 4) :: x.objs txt (p+1) (tk+1600) (.str ⟨#[34]⟩ (te+1573)) ln tl (.str ⟨#[c+1]⟩ (tk+1610))).map some) 6 58
  [Pc ⟨#[c+1]⟩ ⟨#[92]⟩ = false, Bo ⟨#[c+1]⟩ ⟨#[10]⟩ = false, Ba txt p (p+1) ⟨#[c+1]⟩, ((p + (1)) : Int) < (txt.length : Int), ¬ (p : Int) >= (txt.length : Int), Cd U.W txt (x.t 39) (tk+1595)] := by
 obtain ⟨b, _⟩ := U; cases b <;> kernel_rfl
theorem U1 : Ev 400 U.W (g.L :: x.addrs) 7 N tk [.g (.int (txt.length : Int) (tk+1596)) 2, .s ⟨#[c+1]⟩] ((A0 (g.ents x (.bool q) (.str Mr (te+1573)) ++ [Bk hch tch chv]) 4) :: x.objs txt p tp (.str ⟨#[92]⟩ (ts+1573)) ln tl (.str (⟨⟨u :: us⟩⟩ : Str) tt)) 857
  (x2 0x23330200020200200002113330200020200200002e01302200020000211cf0302200020000211003022000200002110001003022000200002130220002000021003022000200002130220002000021003022000200002130220002000021003022000200002140111dddd000000b86f09950440000000400000000495550400000004040040000000049999009916f09009900910f0999934f0504400000004000000004900995044000000040000000049504400000004000000004b00bb01054000040000000400000004999a0000a00aaa000000a000000a0000aaaa010909009999001054000040000000400000004302200020000210003022000200002800880100000000000020000210)
  (Al U.P g) .base (.pure (.again (Al U.P g)))
  [0, 1, 2, 3, 4, 5, 6] (.again (Al U.P g)) (((A0 (g.ents x (.bool q) (.str ⟨#[34]⟩ (te+1573)) ++ [Bk hch tch (.str ⟨#[c+1]⟩ (tk+1610))]) 4) :: x.objs txt (p+1) (tk+1600) (.str ⟨#[34]⟩ (te+1573)) ln tl (.str ((⟨⟨u :: us⟩⟩ : Str) ++ ⟨#[c+1]⟩) (tk+1627))).map some) 6 59
  [((⟨⟨u :: us⟩⟩ : Str) : Str).length ≠ 0, (⟨#[c+1]⟩ : Str).length ≠ 0, ((⟨⟨u :: us⟩⟩ : Str) ++ ⟨#[c+1]⟩ : Str).length <= sizeLine, Pc ⟨#[c+1]⟩ ⟨#[92]⟩ = false, Bo ⟨#[c+1]⟩ ⟨#[10]⟩ = false, Ba txt p (p+1) ⟨#[c+1]⟩, ((p + (1)) : Int) < (txt.length : Int), ¬ (p : Int) >= (txt.length : Int), Cd U.W txt (x.t 39) (tk+1595)] := by
 obtain ⟨b, _⟩ := U; cases b <;> kernel_rfl
theorem T4 : Ev 400 U.W (g.L :: x.addrs) 7 N tk [.g (.int (txt.length : Int) (tk+1596)) 2, .s ⟨#[c+1]⟩] ((A0 (g.ents x (.bool q) (.str Mr (te+1573)) ++ [Bk hch tch chv]) 4) :: x.objs txt p tp (.str ⟨#[92]⟩ (ts+1573)) ln tl (.str ⟨#[]⟩ tt)) 867
  (x2 0x23330200020200200002113330200020200200002001302200020000211cf0111ef0302200020000211003022000200002110001003022000200002130220002000021003022000200002130220002000021003022000200002130220002000021003022000200002140111dddd000000b86f09950440000000400000000495550400000004040040000000049999009916f09009900910f0999934f0504400000004000000004900995044000000040000000049504400000004000000004b00bb01054000040000000400000004999a0000a00aaa000000a000000a0000aaaa010909009999001054000040000000400000004302200020000210003022000200002800880100000000000020000210)
  (Al U.P g) .base (.pure (.again (Al U.P g)))
  [0, 1, 2, 3, 4, 5, 6] (.again (Al U.P g)) (((A0 (g.ents x (.bool q) (.str ⟨#[34]⟩ (te+1573)) ++ [Bk hch tch (.str ⟨#[c+1]⟩ (tk+1610))]) 4) :: x.objs txt (p+1) (tk+1600) (.str ⟨#[34]⟩ (te+1573)) ln tl (.str ⟨#[c+1]⟩ (tk+1610))).map some) 6 58
  [Pc ⟨#[c+1]⟩ ⟨#[34]⟩ = false, Pc ⟨#[c+1]⟩ ⟨#[92]⟩ = true, Bo ⟨#[c+1]⟩ ⟨#[10]⟩ = false, Ba txt p (p+1) ⟨#[c+1]⟩, ((p + (1)) : Int) < (txt.length : Int), ¬ (p : Int) >= (txt.length : Int), Cd U.W txt (x.t 39) (tk+1595)] := by
 obtain ⟨b, _⟩ := U; cases b <;> kernel_rfl
end
end Mine
section
open PySem.Builtin
namespace Mine
theorem Cq {w : World} {s : Str} {t tok : Nat} (h : (s.length : Int) < 2 ^ 63) : Cd w s t tok := by
 intro A s' R ht hR
 subst ht
 refine codeAny_builtin entry_len ?_
 rw [Around.under_plainId plain_len]
 unfold Builtin.«len»
 refine wpAny_bind (m := oneArg "len" _) (wpAny_pure ?_)
 refine wpAny_bind (m := callSpecial? _ (Str.ofString "__len__")) (wpAny_callSpecial?_slot (name := Str.ofString "__len__") (typeIs_str s' s t) F.slot_str_len (call_gives F.slot_str_len (typeIs_str s' s t) F.entry_str_len (F.args_str_len_1 _) (gives_str_len s t) ?_))
 show wpAny _ _ _ _ _ { s' with toks := s'.toks + 1 }
 refine wpAny_bind (wpAny_holding (wpAny_pure ?_))
 refine wpAny_bind (wpAny_letGo ?_)
 show wpAny _ _ (if (s.length : Int) < 0 then _ else _) _ _ _
 rw [if_neg (by lia)]
 show wpAny _ _ (if (s.length : Int) >= 2 ^ 63 then _ else _) _ _ _
 rw [if_neg (by lia)]
 exact wpAny_bind (wpAny_mkInt (wpAny_pure hR))
theorem J9 : ∀ (l : List (Str × Nat)), PyProof.Rows.StrsAre (l.map fun p => Value.str p.1 p.2) (l.map (·.1))
 | [] => .nil
 | p :: l => .cons _ _ (J9 l)
theorem M1 {w : World} {a : Nat} {xs : List (Str × Nat)} {s : Str} {t tok : Nat} {r : Bool} (h : (xs.map (·.1)).any (· == s) = r) : L4 w a xs s t tok r := by
 intro A s' R ht ha hR
 subst ht
 refine codeAny_builtin F.entry_tuple_contains ?_
 rw [Around.under_plainId F.slot_tuple_contains.plain]
 refine PyProof.Rows.tuple_contains_strs (ys := xs.map (·.1)) (items := Array.mk (xs.map fun p => Value.str p.1 p.2)) ?_ (J9 xs) ?_
 ·exact ⟨_, ha, rfl, _, rfl⟩
 ·rw [h]; exact hR
end Mine
end
namespace Mine
noncomputable def O1 (p : Bool × Nat) : Prop := 1 <= p.2 /\ p.2 ≠ 10 /\ (p.1 = false -> p.2 ∈ Jm.cps.toList /\ p.2 ∉ [32, 9, 13, 10] /\ p.2 ≠ 39 /\ p.2 ≠ 34 /\ p.2 ≠ 92)
theorem Ge (u : Nat) (us : List Nat) (v : Nat) : ((⟨⟨u :: us⟩⟩ : Str) ++ ⟨#[v]⟩) = ⟨⟨u :: (us ++ [v])⟩⟩ := by
 show Str.mk ((Array.mk (u :: us)) ++ #[v]) = _
 simp
section
variable {U : Fl} {x : SX} {g : RT} {txt : Str}
noncomputable abbrev LS (x : SX) (g : RT) (txt : Str) (p : Int) (tp : Nat) (st : Value) (ln : Int) (tl : Nat) (tok : Value) (q es : Value) (hch : Int) (tch : Nat) (chv : Value) : List (Nat × Obj) :=
 (g.L :: x.addrs).zip (A0 (g.ents x q es ++ [Bk hch tch chv]) 4 :: x.objs txt p tp st ln tl tok)
theorem R7 {v : Nat} (h : v ∈ Jm.cps.toList) : Cj Jm ⟨#[v]⟩ = true := Lk h
theorem Fq {pre rest : List Nat} {v : Nat} (h : txt.cps.toList = pre ++ v :: rest) : txt.length = pre.length + 1 + rest.length := by
 have : txt.cps.toList.length = (pre ++ v :: rest).length := by rw [h]
 simp at this
 show txt.cps.size = _
 lia
theorem Kv (h2 : 2 <= txt.length) (hfit : txt.length <= sizeLine) : ∀ (items : List (Bool × Nat)) (pre rest : List Nat) (sep : Nat) (p : Int) (tp ts : Nat) (ln : Int) (tl u : Nat) (us : List Nat) (tt : Nat) (q : Bool) (es : Value) (hch : Int) (tch : Nat) (chv : Value) (A : Around) (s : Shared) (R : Result -> Shared -> Prop),
  (∀ i ∈ items, O1 i) -> sep ∈ [10, 9, 13, 32] -> txt.cps.toList = pre ++ (Ai items ++ sep :: rest) -> p = pre.length -> 1 + us.length + items.length <= sizeLine ->
  A.handled = none -> A.depth <= 400 -> At U.W s (LS x g txt p tp (.str ⟨#[97]⟩ (ts + 1573)) ln tl (.str ⟨⟨u :: us⟩⟩ tt) (.bool q) es hch tch chv) ->
  (∀ s' tp' ts' tl' tt' es' chv', At U.W s' (LS x g txt (p + (Ai items).length + 1) tp' (.str ⟨#[32]⟩ (ts' + 1573)) (B3 ln sep) tl' (.str ⟨⟨u :: (us ++ Cm items)⟩⟩ tt') (.bool q) es' hch tch chv') -> Keeps (g.L :: x.addrs) s s' -> R (.ok .next) s') ->
  codeAny (Ak U.W) A (Al U.P g) R s
 | [], pre, rest, sep, p, tp, ts, ln, tl, u, us, tt, q, es, hch, tch, chv, A, s, R, hi, hs, ht, hp, hl, hA, hD, H, cont => by
  obtain ⟨c, rfl⟩ := C3 (v := sep) (by simp at hs; lia)
  obtain ⟨N, tk, hN, hT⟩ := H.NT
  have ht' : txt.cps.toList = pre ++ (c + 1) :: rest := by simpa [Ai] using ht
  have ha := B0 ht'
  have hlen := Fq ht'
  have hsz : sizeLine = 16777216 := rfl
  have hin : Cj ⟨#[32, 9, 13, 10]⟩ ⟨#[c + 1]⟩ = true := Lk (by simp at hs ⊢; lia)
  have hge : ¬ (p : Int) >= (txt.length : Int) := by lia
  have hlo : Cd U.W txt (x.t 39) (tk + 1595) := Cq (by lia)
  have ev0 : Cm ([] : List (Bool × Nat)) = [] := rfl
  have e0 : p + ((Ai ([] : List (Bool × Nat))).length : Int) + 1 = p + 1 := by simp [Ai]
  rw [ev0, e0, List.append_nil] at cont
  by_cases hlast : rest = []
  ·subst hlast
   have hn : ¬ ((p + (1)) : Int) < (txt.length : Int) := by simp at hlen; lia
   have epl : p + 1 = (txt.length : Int) := by simp at hlen; lia
   rw [epl] at cont
   have hslc : Ba txt p (txt.length : Int) ⟨#[c + 1]⟩ := Am ha h2 (by lia) (by lia)
   by_cases h10 : c + 1 = 10
   ·refine Aa (Ah (Ve U x g txt _ _ _ _ _ _ _ _ _ _ _ _ _ c N tk) hA hD H rfl rfl rfl rfl hN hT ⟨Cq (by show ((us.length + 1 : Nat) : Int) < _; lia), hin, M1 rfl, I4 h10, hslc, hn, hge, hlo, trivial⟩ ?_)
    intro s' H' K _ _
    have e : B3 ln (c + 1) = ln + 1 := by unfold B3; rw [if_pos h10]
    rw [e] at cont
    exact cont s' _ (tk + 60) _ _ _ _ H' K
   ·refine Aa (Ah (Uv U x g txt _ _ _ _ _ _ _ _ _ _ _ _ _ c N tk) hA hD H rfl rfl rfl rfl hN hT ⟨Cq (by show ((us.length + 1 : Nat) : Int) < _; lia), hin, M1 rfl, Dh h10, hslc, hn, hge, hlo, trivial⟩ ?_)
    intro s' H' K _ _
    have e : B3 ln (c + 1) = ln := by unfold B3; rw [if_neg h10]
    rw [e] at cont
    exact cont s' _ (tk + 55) _ _ _ _ H' K
  ·have hr : 1 <= rest.length := by cases rest with | nil => exact absurd rfl hlast | cons a l => simp
   have hn : ((p + (1)) : Int) < (txt.length : Int) := by lia
   have hslc : Ba txt p (p + 1) ⟨#[c + 1]⟩ := Am ha h2 (by lia) (by lia)
   by_cases h10 : c + 1 = 10
   ·refine Aa (Ah (Y6 U x g txt _ _ _ _ _ _ _ _ _ _ _ _ _ c N tk) hA hD H rfl rfl rfl rfl hN hT ⟨Cq (by show ((us.length + 1 : Nat) : Int) < _; lia), hin, M1 rfl, I4 h10, hslc, hn, hge, hlo, trivial⟩ ?_)
    intro s' H' K _ _
    have e : B3 ln (c + 1) = ln + 1 := by unfold B3; rw [if_pos h10]
    rw [e] at cont
    exact cont s' _ (tk + 62) _ _ _ _ H' K
   ·refine Aa (Ah (Xe U x g txt _ _ _ _ _ _ _ _ _ _ _ _ _ c N tk) hA hD H rfl rfl rfl rfl hN hT ⟨Cq (by show ((us.length + 1 : Nat) : Int) < _; lia), hin, M1 rfl, Dh h10, hslc, hn, hge, hlo, trivial⟩ ?_)
    intro s' H' K _ _
    have e : B3 ln (c + 1) = ln := by unfold B3; rw [if_neg h10]
    rw [e] at cont
    exact cont s' _ (tk + 57) _ _ _ _ H' K
 | (false, v) :: items, pre, rest, sep, p, tp, ts, ln, tl, u, us, tt, q, es, hch, tch, chv, A, s, R, hi, hs, ht, hp, hl, hA, hD, H, cont => by
  obtain ⟨hv1, hv10, hvo⟩ := hi _ (.head _)
  obtain ⟨hw, hws, h39, h34, h92⟩ := hvo rfl
  dsimp only at hv1 hv10 hw hws h39 h34 h92
  obtain ⟨c, rfl⟩ := C3 hv1
  obtain ⟨N, tk, hN, hT⟩ := H.NT
  have ht' : txt.cps.toList = pre ++ (c + 1) :: (Ai items ++ sep :: rest) := by simpa [Ai] using ht
  have ha := B0 ht'
  have hlen := Fq ht'
  have hsz : sizeLine = 16777216 := rfl
  simp only [List.length_append, List.length_cons] at hlen hl
  have hl1 : ((⟨⟨u :: us⟩⟩ : Str) ++ (⟨#[c + 1]⟩ : Str)).length = us.length + 2 := by rw [Em]; rfl
  refine Aa (Ah (Xh U x g txt _ _ _ _ _ _ _ _ _ _ _ _ _ c N tk) hA hD H rfl rfl rfl rfl hN hT
   ⟨Nat.succ_ne_zero _, Nat.one_ne_zero, by rw [hl1]; lia, R7 hw, Dm (by simpa using h92), Dm (by simp; lia), Dm (by simp), Dm hws, M1 rfl, Dh hv10, Am ha h2 (by lia) (by lia), by lia, by lia, Cq (by lia), trivial⟩ ?_)
  intro s' H' K _ _
  rw [Ge] at H'
  refine ⟨rfl, Kv h2 hfit items (pre ++ [c + 1]) rest sep _ _ _ _ _ _ _ _ _ _ _ _ _ A s' R (fun i m => hi i (.tail _ m)) hs (by simpa [Ai] using ht) (by simp; lia) (by simp; lia) hA hD H' ?_⟩
  intro s'' tp' ts' tl' tt' es' chv' H'' K'
  refine cont s'' tp' ts' tl' tt' es' chv' ?_ (K.trans K')
  have e2 : p + ((Ai ((false, c + 1) :: items)).length : Int) + 1 = p + 1 + ((Ai items).length : Int) + 1 := by simp [Ai]; lia
  have e3 : us ++ Cm ((false, c + 1) :: items) = us ++ [c + 1] ++ Cm items := by simp [Cm]
  rw [e2, e3]; exact H''
 | (true, v) :: items, pre, rest, sep, p, tp, ts, ln, tl, u, us, tt, q, es, hch, tch, chv, A, s, R, hi, hs, ht, hp, hl, hA, hD, H, cont => by
  obtain ⟨hv1, hv10, hvo⟩ := hi _ (.head _)
  dsimp only at hv1 hv10
  obtain ⟨c2, rfl⟩ := C3 hv1
  obtain ⟨N, tk, hN, hT⟩ := H.NT
  have ht' : txt.cps.toList = pre ++ (91 + 1) :: ((c2 + 1) :: (Ai items ++ sep :: rest)) := by simpa [Ai] using ht
  have ht2 : txt.cps.toList = (pre ++ [92]) ++ (c2 + 1) :: (Ai items ++ sep :: rest) := by simpa [Ai] using ht
  have ha := B0 ht'
  have hb := B0 ht2
  have hlen := Fq ht'
  have hsz : sizeLine = 16777216 := rfl
  simp only [List.length_append, List.length_cons, List.length_nil] at hlen hl hb
  have hl1 : ((⟨⟨u :: us⟩⟩ : Str) ++ (⟨#[c2 + 1]⟩ : Str)).length = us.length + 2 := by rw [Em]; rfl
  refine Aa (Ah (X0 U x g txt _ _ _ _ _ _ _ _ _ _ _ _ _ 91 N tk) hA hD H rfl rfl rfl rfl hN hT
   ⟨Lk (by simp), Dm (by simp), Dm (by simp), Dm (by simp), M1 rfl, Dh (by decide), Am ha h2 (by lia) (by lia), by lia, by lia, Cq (by lia), trivial⟩ ?_)
  intro s1 H1 K1 _ _
  refine ⟨rfl, ?_⟩
  obtain ⟨N1, tk1, hN1, hT1⟩ := H1.NT
  refine Aa (Ah (U5 U x g txt _ _ _ _ _ _ _ (tk + 37) (tk + 62) _ _ _ _ c2 N1 tk1) hA hD H1 rfl rfl rfl rfl hN1 hT1
   ⟨Nat.succ_ne_zero _, Nat.one_ne_zero, by rw [hl1]; lia, Dh hv10, Am hb h2 (by lia) (by lia), by lia, by lia, Cq (by lia), trivial⟩ ?_)
  intro s' H' K _ _
  rw [Ge] at H'
  refine ⟨rfl, Kv h2 hfit items (pre ++ [92, c2 + 1]) rest sep _ _ _ _ _ _ _ _ _ _ _ _ _ A s' R (fun i m => hi i (.tail _ m)) hs (by simpa [Ai] using ht) (by simp; lia) (by simp; lia) hA hD H' ?_⟩
  intro s'' tp' ts' tl' tt' es' chv' H'' K'
  refine cont s'' tp' ts' tl' tt' es' chv' ?_ ((K1.trans K).trans K')
  have e2 : p + ((Ai ((true, c2 + 1) :: items)).length : Int) + 1 = p + 1 + 1 + ((Ai items).length : Int) + 1 := by simp [Ai]; lia
  have e3 : us ++ Cm ((true, c2 + 1) :: items) = us ++ [c2 + 1] ++ Cm items := by simp [Cm]
  rw [e2, e3]; exact H''
end
noncomputable def Rt (p : Bool × Nat) : Prop := 1 <= p.2 /\ p.2 ≠ 10 /\ (p.1 = false -> p.2 ≠ 34 /\ p.2 ≠ 92) /\ (p.1 = true -> p.2 = 34 \/ p.2 = 92)
theorem Aah {v u : Nat} (h : v = u) : Pc ⟨#[v]⟩ ⟨#[u]⟩ = false := by
 unfold Pc
 simpa using h
theorem Ahp {v u : Nat} (h : v ≠ u) : Pc ⟨#[v]⟩ ⟨#[u]⟩ = true := by
 unfold Pc
 simpa using h
section
variable {U : Fl} {x : SX} {g : RT} {txt : Str}
theorem J0 (h2 : 2 <= txt.length) (hfit : txt.length <= sizeLine) : ∀ (items : List (Bool × Nat)) (pre rest : List Nat) (sep : Nat) (p : Int) (tp ts : Nat) (ln : Int) (tl u : Nat) (us : List Nat) (tt : Nat) (q : Bool) (es : Value) (hch : Int) (tch : Nat) (chv : Value) (A : Around) (s : Shared) (R : Result -> Shared -> Prop),
  (∀ i ∈ items, Rt i) -> sep ∈ [10, 9, 13, 32] -> txt.cps.toList = pre ++ (Ai items ++ 34 :: sep :: rest) -> p = pre.length -> 1 + us.length + items.length <= sizeLine ->
  A.handled = none -> A.depth <= 400 -> At U.W s (LS x g txt p tp (.str ⟨#[34]⟩ (ts + 1573)) ln tl (.str ⟨⟨u :: us⟩⟩ tt) (.bool q) es hch tch chv) ->
  (∀ s' tp' ts' tl' tt' es' chv', At U.W s' (LS x g txt (p + (Ai items).length + 1 + 1) tp' (.str ⟨#[32]⟩ (ts' + 1573)) (B3 ln sep) tl' (.str ⟨⟨u :: (us ++ Cm items)⟩⟩ tt') (.bool true) es' hch tch chv') -> Keeps (g.L :: x.addrs) s s' -> R (.ok .next) s') ->
  codeAny (Ak U.W) A (Al U.P g) R s
 | [], pre, rest, sep, p, tp, ts, ln, tl, u, us, tt, q, es, hch, tch, chv, A, s, R, hi, hs, ht, hp, hl, hA, hD, H, cont => by
  obtain ⟨N, tk, hN, hT⟩ := H.NT
  have ht' : txt.cps.toList = pre ++ (33 + 1) :: (sep :: rest) := by simpa [Ai] using ht
  have ha := B0 ht'
  have hlen := Fq ht'
  have hsz : sizeLine = 16777216 := rfl
  simp only [List.length_cons] at hlen
  refine Aa (Ah (Y1 U x g txt _ _ _ _ _ _ _ _ _ _ _ _ _ 33 N tk) hA hD H rfl rfl rfl rfl hN hT
   ⟨I4 rfl, Dh (by decide), Am ha h2 (by lia) (by lia), by lia, by lia, Cq (by lia), trivial⟩ ?_)
  intro s' H' K _ _
  refine ⟨rfl, Kv h2 hfit [] (pre ++ [34]) rest sep _ _ (tk + 52) _ _ _ _ _ _ _ _ _ _ A s' R (by intro i m; cases m) hs (by simpa [Ai] using ht) (by simp; lia) (by simpa using hl) hA hD H' ?_⟩
  intro s'' tp' ts' tl' tt' es' chv' H'' K'
  refine cont s'' tp' ts' tl' tt' es' chv' ?_ (K.trans K')
  have e2 : p + ((Ai ([] : List (Bool × Nat))).length : Int) + 1 + 1 = p + 1 + ((Ai ([] : List (Bool × Nat))).length : Int) + 1 := by lia
  rw [e2]; exact H''
 | (false, v) :: items, pre, rest, sep, p, tp, ts, ln, tl, u, us, tt, q, es, hch, tch, chv, A, s, R, hi, hs, ht, hp, hl, hA, hD, H, cont => by
  obtain ⟨hv1, hv10, hvo, _⟩ := hi _ (.head _)
  obtain ⟨h34, h92⟩ := hvo rfl
  dsimp only at hv1 hv10 h34 h92
  obtain ⟨c, rfl⟩ := C3 hv1
  obtain ⟨N, tk, hN, hT⟩ := H.NT
  have ht' : txt.cps.toList = pre ++ (c + 1) :: (Ai items ++ 34 :: sep :: rest) := by simpa [Ai] using ht
  have ha := B0 ht'
  have hlen := Fq ht'
  have hsz : sizeLine = 16777216 := rfl
  simp only [List.length_append, List.length_cons] at hlen hl
  have hl1 : ((⟨⟨u :: us⟩⟩ : Str) ++ (⟨#[c + 1]⟩ : Str)).length = us.length + 2 := by rw [Em]; rfl
  refine Aa (Ah (Xi U x g txt _ _ _ _ _ _ _ _ _ _ _ _ _ c N tk) hA hD H rfl rfl rfl rfl hN hT
   ⟨Nat.succ_ne_zero _, Nat.one_ne_zero, by rw [hl1]; lia, Dm (by simpa using h92), Dh h34, Dh hv10, Am ha h2 (by lia) (by lia), by lia, by lia, Cq (by lia), trivial⟩ ?_)
  intro s' H' K _ _
  rw [Ge] at H'
  refine ⟨rfl, J0 h2 hfit items (pre ++ [c + 1]) rest sep _ _ _ _ _ _ _ _ _ _ _ _ _ A s' R (fun i m => hi i (.tail _ m)) hs (by simpa [Ai] using ht) (by simp; lia) (by simp; lia) hA hD H' ?_⟩
  intro s'' tp' ts' tl' tt' es' chv' H'' K'
  refine cont s'' tp' ts' tl' tt' es' chv' ?_ (K.trans K')
  have e2 : p + ((Ai ((false, c + 1) :: items)).length : Int) + 1 + 1 = p + 1 + ((Ai items).length : Int) + 1 + 1 := by simp [Ai]; lia
  have e3 : us ++ Cm ((false, c + 1) :: items) = us ++ [c + 1] ++ Cm items := by simp [Cm]
  rw [e2, e3]; exact H''
 | (true, v) :: items, pre, rest, sep, p, tp, ts, ln, tl, u, us, tt, q, es, hch, tch, chv, A, s, R, hi, hs, ht, hp, hl, hA, hD, H, cont => by
  obtain ⟨hv1, hv10, _, hvq⟩ := hi _ (.head _)
  have hvq := hvq rfl
  dsimp only at hv1 hv10 hvq
  obtain ⟨c2, rfl⟩ := C3 hv1
  obtain ⟨N, tk, hN, hT⟩ := H.NT
  have ht' : txt.cps.toList = pre ++ (91 + 1) :: ((c2 + 1) :: (Ai items ++ 34 :: sep :: rest)) := by simpa [Ai] using ht
  have ht2 : txt.cps.toList = (pre ++ [92]) ++ (c2 + 1) :: (Ai items ++ 34 :: sep :: rest) := by simpa [Ai] using ht
  have ha := B0 ht'
  have hb := B0 ht2
  have hlen := Fq ht'
  have hsz : sizeLine = 16777216 := rfl
  simp only [List.length_append, List.length_cons, List.length_nil] at hlen hl hb
  have hl1 : ((⟨⟨u :: us⟩⟩ : Str) ++ (⟨#[c2 + 1]⟩ : Str)).length = us.length + 2 := by rw [Em]; rfl
  refine Aa (Ah (Ud U x g txt _ _ _ _ _ _ _ _ _ _ _ _ _ 91 N tk) hA hD H rfl rfl rfl rfl hN hT
   ⟨Lk (by simp), Dh (by decide), Dh (by decide), Am ha h2 (by lia) (by lia), by lia, by lia, Cq (by lia), trivial⟩ ?_)
  intro s1 H1 K1 _ _
  refine ⟨rfl, ?_⟩
  obtain ⟨N1, tk1, hN1, hT1⟩ := H1.NT
  have e2 : p + ((Ai ((true, c2 + 1) :: items)).length : Int) + 1 + 1 = p + 1 + 1 + ((Ai items).length : Int) + 1 + 1 := by simp [Ai]; lia
  have e3 : us ++ Cm ((true, c2 + 1) :: items) = us ++ [c2 + 1] ++ Cm items := by simp [Cm]
  rcases hvq with hv | hv
  ·refine Aa (Ah (U9 U x g txt _ _ _ _ _ _ _ (tk + 37) ts _ _ _ _ c2 N1 tk1) hA hD H1 rfl rfl rfl rfl hN1 hT1
    ⟨Nat.succ_ne_zero _, Nat.one_ne_zero, by rw [hl1]; lia, Aah hv, Ahp (by lia), Dh hv10, Am hb h2 (by lia) (by lia), by lia, by lia, Cq (by lia), trivial⟩ ?_)
   intro s' H' K _ _
   rw [Ge] at H'
   refine ⟨rfl, J0 h2 hfit items (pre ++ [92, c2 + 1]) rest sep _ _ _ _ _ _ _ _ _ _ _ _ _ A s' R (fun i m => hi i (.tail _ m)) hs (by simpa [Ai] using ht) (by simp; lia) (by simp; lia) hA hD H' ?_⟩
   intro s'' tp' ts' tl' tt' es' chv' H'' K'
   refine cont s'' tp' ts' tl' tt' es' chv' ?_ ((K1.trans K).trans K')
   rw [e2, e3]; exact H''
  ·refine Aa (Ah (U1 U x g txt _ _ _ _ _ _ _ (tk + 37) ts _ _ _ _ c2 N1 tk1) hA hD H1 rfl rfl rfl rfl hN1 hT1
    ⟨Nat.succ_ne_zero _, Nat.one_ne_zero, by rw [hl1]; lia, Aah hv, Dh hv10, Am hb h2 (by lia) (by lia), by lia, by lia, Cq (by lia), trivial⟩ ?_)
   intro s' H' K _ _
   rw [Ge] at H'
   refine ⟨rfl, J0 h2 hfit items (pre ++ [92, c2 + 1]) rest sep _ _ _ _ _ _ _ _ _ _ _ _ _ A s' R (fun i m => hi i (.tail _ m)) hs (by simpa [Ai] using ht) (by simp; lia) (by simp; lia) hA hD H' ?_⟩
   intro s'' tp' ts' tl' tt' es' chv' H'' K'
   refine cont s'' tp' ts' tl' tt' es' chv' ?_ ((K1.trans K).trans K')
   rw [e2, e3]; exact H''
end
section
variable {U : Fl} {x : SX} {g : RT} {txt : Str}
noncomputable abbrev LT (x : SX) (g : RT) (txt : Str) (p : Int) (tp : Nat) (st : Value) (ln : Int) (tl : Nat) (tok : Value) (q es : Value) : List (Nat × Obj) :=
 (g.L :: x.addrs).zip (A0 (g.ents x q es) 3 :: x.objs txt p tp st ln tl tok)
noncomputable def Qe (w : World) (x : SX) (g : RT) (txt : Str) (s : Shared) (p ln : Int) (val : List Nat) (R : Result -> Shared -> Prop) : Prop :=
 ∀ s' tp' ts' tl' tt' q' es' hch tch chv', At w s' (LS x g txt p tp' (.str ⟨#[32]⟩ (ts' + 1573)) ln tl' (.str ⟨Array.mk val⟩ tt') (.bool q') es' hch tch chv') -> Keeps (g.L :: x.addrs) s s' -> R (.ok .next) s'
theorem X3 (h2 : 2 <= txt.length) (hfit : txt.length <= sizeLine) {v : Nat} {items : List (Bool × Nat)} {pre rest : List Nat} {sep : Nat} {p : Int} {tp ts : Nat} {ln : Int} {tl tt : Nat} {q : Bool} {es : Value}
  (e : Bool) (h0 : O1 (e, v)) (hi : ∀ i ∈ items, O1 i) (hs : sep ∈ [10, 9, 13, 32]) (ht : txt.cps.toList = pre ++ (Ai ((e, v) :: items) ++ sep :: rest)) (hp : p = pre.length) (hl : 1 + items.length <= sizeLine)
  (hA : A.handled = none) (hD : A.depth <= 400) (H : At U.W s (LT x g txt p tp (.str ⟨#[32]⟩ (ts + 1573)) ln tl (.str ⟨#[]⟩ tt) (.bool q) es))
  (cont : Qe U.W x g txt s (p + (Ai ((e, v) :: items)).length + 1) (B3 ln sep) (v :: Cm items) R) :
  codeAny (Ak U.W) A (Al U.P g) R s := by
 obtain ⟨hv1, hv10, hvo⟩ := h0
 dsimp only at hv1 hv10 hvo
 obtain ⟨N, tk, hN, hT⟩ := H.NT
 have hsz : sizeLine = 16777216 := rfl
 obtain ⟨c, rfl⟩ := C3 hv1
 cases e with
 | false =>
  obtain ⟨hw, hws, h39, h34, h92⟩ := hvo rfl
  have ht' : txt.cps.toList = pre ++ (c + 1) :: (Ai items ++ sep :: rest) := by simpa [Ai] using ht
  have ha := B0 ht'
  have hlen := Fq ht'
  simp only [List.length_append, List.length_cons] at hlen
  refine Aa (Ah (Yk U x g txt _ _ _ _ _ _ _ _ c N tk) hA hD H rfl rfl rfl rfl hN hT
   ⟨R7 hw, Dm (by simpa using h92), Dm (by simp), Dm hws, Dh hv10, Am ha h2 (by lia) (by lia), by lia, by lia, Cq (by lia), trivial⟩ ?_)
  intro s' H' K _ _
  refine ⟨rfl, Kv h2 hfit items (pre ++ [c + 1]) rest sep _ _ (tk + 54) _ _ (c + 1) [] _ _ _ _ _ _ A s' R hi hs (by simpa [Ai] using ht) (by simp; lia) (by simpa using hl) hA hD H' ?_⟩
  intro s'' tp' ts' tl' tt' es' chv' H'' K'
  have e2 : p + ((Ai ((false, c + 1) :: items)).length : Int) + 1 = p + 1 + ((Ai items).length : Int) + 1 := by simp [Ai]; lia
  rw [e2] at cont
  exact cont s'' tp' ts' tl' tt' _ es' _ _ chv' H'' (K.trans K')
 | true =>
  have ht' : txt.cps.toList = pre ++ (91 + 1) :: ((c + 1) :: (Ai items ++ sep :: rest)) := by simpa [Ai] using ht
  have ht2 : txt.cps.toList = (pre ++ [92]) ++ (c + 1) :: (Ai items ++ sep :: rest) := by simpa [Ai] using ht
  have ha := B0 ht'
  have hb := B0 ht2
  have hlen := Fq ht'
  simp only [List.length_append, List.length_cons, List.length_nil] at hlen hb
  refine Aa (Ah (Uq U x g txt _ _ _ _ _ _ _ _ 91 N tk) hA hD H rfl rfl rfl rfl hN hT
   ⟨Lk (by simp), Dm (by simp), Dm (by simp), Dh (by decide), Am ha h2 (by lia) (by lia), by lia, by lia, Cq (by lia), trivial⟩ ?_)
  intro s1 H1 K1 _ _
  refine ⟨rfl, ?_⟩
  obtain ⟨N1, tk1, hN1, hT1⟩ := H1.NT
  refine Aa (Ah (Vi U x g txt _ _ _ _ _ (tk + 37) (tk + 51) _ _ _ _ c N1 tk1) hA hD H1 rfl rfl rfl rfl hN1 hT1
   ⟨Dh hv10, Am hb h2 (by lia) (by lia), by lia, by lia, Cq (by lia), trivial⟩ ?_)
  intro s' H' K _ _
  refine ⟨rfl, Kv h2 hfit items (pre ++ [92, c + 1]) rest sep _ _ (tk + 51) _ _ (c + 1) [] _ _ _ _ _ _ A s' R hi hs (by simpa [Ai] using ht) (by simp; lia) (by simpa using hl) hA hD H' ?_⟩
  intro s'' tp' ts' tl' tt' es' chv' H'' K'
  have e2 : p + ((Ai ((true, c + 1) :: items)).length : Int) + 1 = p + 1 + 1 + ((Ai items).length : Int) + 1 := by simp [Ai]; lia
  rw [e2] at cont
  exact cont s'' tp' ts' tl' tt' _ es' _ _ chv' H'' ((K1.trans K).trans K')
theorem Abx (h2 : 2 <= txt.length) (hfit : txt.length <= sizeLine) {v : Nat} {items : List (Bool × Nat)} {pre rest : List Nat} {sep : Nat} {p : Int} {tp ts : Nat} {ln : Int} {tl tt : Nat} {q : Bool} {es : Value}
  (e : Bool) (h0 : Rt (e, v)) (hi : ∀ i ∈ items, Rt i) (hs : sep ∈ [10, 9, 13, 32]) (ht : txt.cps.toList = pre ++ (34 :: (Ai ((e, v) :: items) ++ 34 :: sep :: rest))) (hp : p = pre.length) (hl : 1 + items.length <= sizeLine)
  (hA : A.handled = none) (hD : A.depth <= 400) (H : At U.W s (LT x g txt p tp (.str ⟨#[32]⟩ (ts + 1573)) ln tl (.str ⟨#[]⟩ tt) (.bool q) es))
  (cont : Qe U.W x g txt s (p + (Ai ((e, v) :: items)).length + 1 + 1 + 1) (B3 ln sep) (v :: Cm items) R) :
  codeAny (Ak U.W) A (Al U.P g) R s := by
 obtain ⟨hv1, hv10, hvo, hvq⟩ := h0
 dsimp only at hv1 hv10 hvo hvq
 obtain ⟨N, tk, hN, hT⟩ := H.NT
 have hsz : sizeLine = 16777216 := rfl
 have htq : txt.cps.toList = pre ++ (33 + 1) :: (Ai ((e, v) :: items) ++ 34 :: sep :: rest) := ht
 have hq := B0 htq
 have hlen := Fq htq
 simp only [List.length_append, List.length_cons] at hlen
 obtain ⟨c, rfl⟩ := C3 hv1
 refine Aa (Ah (Zu U x g txt _ _ _ _ _ _ _ _ 33 N tk) hA hD H rfl rfl rfl rfl hN hT
  ⟨Lk (by simp), Dm (by simp), Dm (by decide +kernel), Dm (by simp), Dm (by simp), Dm (by simp), Dh (by decide), Am hq h2 (by lia) (by lia), by lia, by lia, Cq (by lia), trivial⟩ ?_)
 intro s1 H1 K1 _ _
 refine ⟨rfl, ?_⟩
 obtain ⟨N1, tk1, hN1, hT1⟩ := H1.NT
 cases e with
 | false =>
  obtain ⟨h34, h92⟩ := hvo rfl
  have hle : (Ai ((false, c + 1) :: items)).length = 1 + (Ai items).length := by simp [Ai]; lia
  have ht' : txt.cps.toList = (pre ++ [34]) ++ (c + 1) :: (Ai items ++ 34 :: sep :: rest) := by simpa [Ai] using ht
  have ha := B0 ht'
  simp only [List.length_append, List.length_cons, List.length_nil] at ha
  refine Aa (Ah (Ze U x g txt _ _ _ _ _ (tk + 37) _ _ _ _ _ c N1 tk1) hA hD H1 rfl rfl rfl rfl hN1 hT1
   ⟨Dm (by simpa using h92), Dh h34, Dh hv10, Am ha h2 (by lia) (by lia), by lia, by lia, Cq (by lia), trivial⟩ ?_)
  intro s' H' K _ _
  refine ⟨rfl, J0 h2 hfit items (pre ++ [34, c + 1]) rest sep _ _ (tk + 37) _ _ (c + 1) [] _ _ _ _ _ _ A s' R hi hs (by simpa [Ai] using ht) (by simp; lia) (by simpa using hl) hA hD H' ?_⟩
  intro s'' tp' ts' tl' tt' es' chv' H'' K'
  have e2 : p + ((Ai ((false, c + 1) :: items)).length : Int) + 1 + 1 + 1 = p + 1 + 1 + ((Ai items).length : Int) + 1 + 1 := by rw [hle]; push_cast; lia
  rw [e2] at cont
  exact cont s'' tp' ts' tl' tt' _ es' _ _ chv' H'' ((K1.trans K).trans K')
 | true =>
  have hvq := hvq rfl
  have hle : (Ai ((true, c + 1) :: items)).length = 2 + (Ai items).length := by simp [Ai]; lia
  have ht' : txt.cps.toList = (pre ++ [34]) ++ (91 + 1) :: ((c + 1) :: (Ai items ++ 34 :: sep :: rest)) := by simpa [Ai] using ht
  have ht2 : txt.cps.toList = (pre ++ [34, 92]) ++ (c + 1) :: (Ai items ++ 34 :: sep :: rest) := by simpa [Ai] using ht
  have ha := B0 ht'
  have hb := B0 ht2
  simp only [List.length_append, List.length_cons, List.length_nil] at ha hb
  refine Aa (Ah (Vm U x g txt _ _ _ _ _ (tk + 37) _ _ _ _ _ 91 N1 tk1) hA hD H1 rfl rfl rfl rfl hN1 hT1
   ⟨Lk (by simp), Dh (by decide), Dh (by decide), Am ha h2 (by lia) (by lia), by lia, by lia, Cq (by lia), trivial⟩ ?_)
  intro s2 H2 K2 _ _
  refine ⟨rfl, ?_⟩
  obtain ⟨N2, tk2, hN2, hT2⟩ := H2.NT
  have e2 : p + ((Ai ((true, c + 1) :: items)).length : Int) + 1 + 1 + 1 = p + 1 + 1 + 1 + ((Ai items).length : Int) + 1 + 1 := by rw [hle]; push_cast; lia
  rw [e2] at cont
  rcases hvq with hv | hv
  ·refine Aa (Ah (T4 U x g txt _ _ _ _ _ (tk1 + 37) (tk + 37) _ _ _ _ c N2 tk2) hA hD H2 rfl rfl rfl rfl hN2 hT2
    ⟨Aah hv, Ahp (by lia), Dh hv10, Am hb h2 (by lia) (by lia), by lia, by lia, Cq (by lia), trivial⟩ ?_)
   intro s' H' K _ _
   refine ⟨rfl, J0 h2 hfit items (pre ++ [34, 92, c + 1]) rest sep _ _ (tk + 37) _ _ (c + 1) [] _ _ _ _ _ _ A s' R hi hs (by simpa [Ai] using ht) (by simp; lia) (by simpa using hl) hA hD H' ?_⟩
   intro s'' tp' ts' tl' tt' es' chv' H'' K'
   exact cont s'' tp' ts' tl' tt' _ es' _ _ chv' H'' (((K1.trans K2).trans K).trans K')
  ·refine Aa (Ah (Vb U x g txt _ _ _ _ _ (tk1 + 37) (tk + 37) _ _ _ _ c N2 tk2) hA hD H2 rfl rfl rfl rfl hN2 hT2
    ⟨Aah hv, Dh hv10, Am hb h2 (by lia) (by lia), by lia, by lia, Cq (by lia), trivial⟩ ?_)
   intro s' H' K _ _
   refine ⟨rfl, J0 h2 hfit items (pre ++ [34, 92, c + 1]) rest sep _ _ (tk + 37) _ _ (c + 1) [] _ _ _ _ _ _ A s' R hi hs (by simpa [Ai] using ht) (by simp; lia) (by simpa using hl) hA hD H' ?_⟩
   intro s'' tp' ts' tl' tt' es' chv' H'' K'
   exact cont s'' tp' ts' tl' tt' _ es' _ _ chv' H'' (((K1.trans K2).trans K).trans K')
end
noncomputable def My (P : Params) (N tk : Nat) : RT :=
 { L := N + 884, t := fun | 0 => tk + 1573 | 1 => tk + 1574 | _ => tk + 1576, h := fun | 0 => PyData.keyHash P ⟨#[115, 101, 108, 102]⟩ | 1 => PyData.keyHash P ⟨#[113, 117, 111, 116, 101, 100]⟩ | _ => PyData.keyHash P ⟨#[101, 115, 99, 97, 112, 101, 100, 115, 116, 97, 116, 101]⟩ }
section
variable (U : Fl) (x : SX) (txt : Str) (p : Int) (tp : Nat) (st : Value) (ln : Int) (tl : Nat) (tok : Value) (N tk : Nat)
noncomputable abbrev Ig : Res := Ay 400 U.W x.addrs 6 N tk [] (x.objs txt p tp st ln tl tok) 50 (x2 0x27777007701)
  (.call (.ref 761) ⟨[.ref x.inst], []⟩) .base (.pure (.again (.call (.ref 761) ⟨[.ref x.inst], []⟩)))
theorem Abn : Ev 400 U.W x.addrs 6 N tk [] (x.objs txt p tp st ln tl tok) 50 (x2 0x27777007701)
  (.call (.ref 761) ⟨[.ref x.inst], []⟩) .base (.pure (.again (.call (.ref 761) ⟨[.ref x.inst], []⟩)))
  [6, 0, 1, 2, 3, 4, 5] (.call (Al U.P (My U.P N tk)) 1)
  ((A0 ((My U.P N tk).ents x (.bool false) (.str ⟨#[32]⟩ (tk + 1575))) 3 :: x.objs txt p tp st ln tl tok).map some) 1 4 [] := by
 kernel_rfl
theorem Yh (M K : Nat) (g : RT) (hg : g = My U.P N tk) (txt' : Str) (p' : Int) (tp' : Nat) (st' : Value) (ln' : Int) (tl' tt' : Nat) (u : Nat) (us : List Nat) (es : Value) (hch : Int) (tch : Nat) (chv : Value) :
  Ev 400 U.W ((My U.P N tk).L :: x.addrs) 7 M K [] (A0 ((My U.P N tk).ents x (.bool false) es ++ [Bk hch tch chv]) 4 :: x.objs txt' p' tp' st' ln' tl' (.str ⟨⟨u :: us⟩⟩ tt')) 140
   (x2 0x10030220002000021001130220002000021333020002020020000211130220002000021)
   (Ig U x txt p tp st ln tl tok N tk).c (Ig U x txt p tp st ln tl tok N tk).κ (Cb (Ig U x txt p tp st ln tl tok N tk).t (.ok .next))
   [1, 2, 3, 4, 5, 6] (.fin (.ret (.str ⟨⟨u :: us⟩⟩ tt'))) ((x.objs txt' p' tp' st' ln' tl' (.str ⟨#[]⟩ (K + 1575))).map some) 0 9 [] := by
 obtain ⟨b, _⟩ := U; cases b <;> kernel_rfl
theorem Xo (M K : Nat) (txt' : Str) (p' : Int) (tp' : Nat) (st' : Value) (ln' : Int) (tl' tt' : Nat) (u : Nat) (us : List Nat) (es : Value) (hch : Int) (tch : Nat) (chv : Value) :
  Ev 400 U.W ((My U.P N tk).L :: x.addrs) 7 M K [] (A0 ((My U.P N tk).ents x (.bool true) es ++ [Bk hch tch chv]) 4 :: x.objs txt' p' tp' st' ln' tl' (.str ⟨⟨u :: us⟩⟩ tt')) 140
   (x2 0x10030220002000021130220002000021333020002020020000211130220002000021)
   (Ig U x txt p tp st ln tl tok N tk).c (Ig U x txt p tp st ln tl tok N tk).κ (Cb (Ig U x txt p tp st ln tl tok N tk).t (.ok .next))
   [1, 2, 3, 4, 5, 6] (.fin (.ret (.str ⟨⟨u :: us⟩⟩ tt'))) ((x.objs txt' p' tp' st' ln' tl' (.str ⟨#[]⟩ (K + 1575))).map some) 0 8 [] := by
 obtain ⟨b, _⟩ := U; cases b <;> kernel_rfl
theorem Zs (M K : Nat) (txt' : Str) (p' : Int) (tp' : Nat) (st' : Value) (ln' : Int) (tl' tt' : Nat) (es : Value) (hch : Int) (tch : Nat) (chv : Value) :
  Ev 400 U.W ((My U.P N tk).L :: x.addrs) 7 M K [] (A0 ((My U.P N tk).ents x (.bool false) es ++ [Bk hch tch chv]) 4 :: x.objs txt' p' tp' st' ln' tl' (.str ⟨#[]⟩ tt')) 160
   (x2 0x1003022000200002111001130220002000021333020002020020000211130220002000021)
   (Ig U x txt p tp st ln tl tok N tk).c (Ig U x txt p tp st ln tl tok N tk).κ (Cb (Ig U x txt p tp st ln tl tok N tk).t (.ok .next))
   [1, 2, 3, 4, 5, 6] (.fin (.ret .none)) ((x.objs txt' p' tp' st' ln' tl' (.str ⟨#[]⟩ (K + 1575))).map some) 0 10 [] := by
 obtain ⟨b, _⟩ := U; cases b <;> kernel_rfl
end
section
variable {U : Fl} {x : SX} {txt : Str}
noncomputable abbrev LZ (x : SX) (txt : Str) (p : Int) (tp : Nat) (st : Value) (ln : Int) (tl : Nat) (tok : Value) : List (Nat × Obj) := x.addrs.zip (x.objs txt p tp st ln tl tok)
theorem Aga {p : Int} {tp ts : Nat} {ln : Int} {tl tt : Nat} {p' ln' : Int} {u : Nat} {us : List Nat}
  (hA : A.handled = none) (hD : A.depth <= 390) (H : At U.W s (LZ x txt p tp (.str ⟨#[32]⟩ (ts + 1573)) ln tl (.str ⟨#[]⟩ tt)))
  (inner : ∀ (g : RT) (es : Value) (A' : Around) (s' : Shared) (R' : Result -> Shared -> Prop), A'.handled = none -> A'.depth <= 400 -> At U.W s' (LT x g txt p tp (.str ⟨#[32]⟩ (ts + 1573)) ln tl (.str ⟨#[]⟩ tt) (.bool false) es) -> Qe U.W x g txt s' p' ln' (u :: us) R' ->
   codeAny (Ak U.W) A' (Al U.P g) R' s')
  (cont : ∀ s' tp' ts' tl' tt' tv, At U.W s' (LZ x txt p' tp' (.str ⟨#[32]⟩ (ts' + 1573)) ln' tl' (.str ⟨#[]⟩ tt')) -> Keeps x.addrs s s' -> R (.ok (.ret (.str ⟨⟨u :: us⟩⟩ tv))) s') :
  codeAny (Ak U.W) A (.call (.ref 761) ⟨[.ref x.inst], []⟩) R s := by
 obtain ⟨N, tk, hN, hT⟩ := H.NT
 refine Aa (C5 (W := [6, 0, 1, 2, 3, 4, 5].zip (A0 ((My U.P N tk).ents x (.bool false) (.str ⟨#[32]⟩ (tk + 1575))) 3 :: x.objs txt p tp (.str ⟨#[32]⟩ (ts + 1573)) ln tl (.str ⟨#[]⟩ tt)))
  (Abn U x txt p tp _ ln tl _ N tk) hA (dl hD) H rfl rfl rfl hN hT rfl rfl (by decide) (by decide) trivial ?_)
 intro s' H' K hTs hSz
 intro A' hA' hD'
 refine inner (My U.P N tk) (.str ⟨#[32]⟩ (tk + 1575)) A' s' _ hA' (Dv hD' hD) H' ?_
 intro s'' tp' ts' tl' tt' q' es' hch tch chv' H'' K'
 obtain ⟨N2, tk2, hN2, hT2⟩ := H''.NT
 have fin : ∀ s3 tz, At U.W s3 (LZ x txt p' tp' (.str ⟨#[32]⟩ (ts' + 1573)) ln' tl' (.str ⟨#[]⟩ tz)) -> Keeps ((My U.P N tk).L :: x.addrs) s'' s3 -> R (.ok (.ret (.str ⟨⟨u :: us⟩⟩ tt'))) s3 := by
  intro s3 tz H3 K3
  refine cont s3 _ _ _ _ _ H3 (K.trans_new (Y := [(My U.P N tk).L]) (K'.trans K3) ?_)
  intro y hy
  have : y = N + 884 := by simpa [My] using hy
  lia
 cases q' with
 | false =>
  refine C5 (W := [1, 2, 3, 4, 5, 6].zip (x.objs txt p' tp' (.str ⟨#[32]⟩ (ts' + 1573)) ln' tl' (.str ⟨#[]⟩ (tk2 + 1575)))) (Yh U x txt p tp _ ln tl _ N tk N2 tk2 _ rfl txt p' tp' _ ln' tl' tt' u us es' hch tch chv') hA (dl hD) H'' rfl rfl rfl hN2 hT2 rfl rfl (by decide) (by decide) trivial ?_
  intro s3 H3 K3 _ _
  exact fin s3 _ H3 K3
 | true =>
  refine C5 (W := [1, 2, 3, 4, 5, 6].zip (x.objs txt p' tp' (.str ⟨#[32]⟩ (ts' + 1573)) ln' tl' (.str ⟨#[]⟩ (tk2 + 1575)))) (Xo U x txt p tp _ ln tl _ N tk N2 tk2 txt p' tp' _ ln' tl' tt' u us es' hch tch chv') hA (dl hD) H'' rfl rfl rfl hN2 hT2 rfl rfl (by decide) (by decide) trivial ?_
  intro s3 H3 K3 _ _
  exact fin s3 _ H3 K3
theorem Ae4 {p : Int} {tp ts : Nat} {ln : Int} {tl tt : Nat} (hfit : txt.length <= sizeLine) (hp : p = txt.length)
  (hA : A.handled = none) (hD : A.depth <= 390) (H : At U.W s (LZ x txt p tp (.str ⟨#[32]⟩ (ts + 1573)) ln tl (.str ⟨#[]⟩ tt)))
  (cont : ∀ s' tt', At U.W s' (LZ x txt p tp .none ln tl (.str ⟨#[]⟩ tt')) -> Keeps x.addrs s s' -> R (.ok (.ret .none)) s') :
  codeAny (Ak U.W) A (.call (.ref 761) ⟨[.ref x.inst], []⟩) R s := by
 obtain ⟨N, tk, hN, hT⟩ := H.NT
 have hsz : sizeLine = 16777216 := rfl
 refine Aa (C5 (W := [6, 0, 1, 2, 3, 4, 5].zip (A0 ((My U.P N tk).ents x (.bool false) (.str ⟨#[32]⟩ (tk + 1575))) 3 :: x.objs txt p tp (.str ⟨#[32]⟩ (ts + 1573)) ln tl (.str ⟨#[]⟩ tt)))
  (Abn U x txt p tp _ ln tl _ N tk) hA (dl hD) H rfl rfl rfl hN hT rfl rfl (by decide) (by decide) trivial ?_)
 intro s' H' K hTs hSz
 intro A' hA' hD'
 have H1 : At U.W s' (LT x (My U.P N tk) txt p tp (.str ⟨#[32]⟩ (ts + 1573)) ln tl (.str ⟨#[]⟩ tt) (.bool false) (.str ⟨#[32]⟩ (tk + 1575))) := H'
 obtain ⟨N1, tk1, hN1, hT1⟩ := H1.NT
 refine Aa (Ah (Up U x (My U.P N tk) txt p tp ln tl tt ts false _ N1 tk1) hA' (Dv hD' hD) H1 rfl rfl rfl rfl hN1 hT1 ⟨by lia, Cq (by lia), trivial⟩ ?_)
 intro s'' H'' K' _ _
 obtain ⟨N2, tk2, hN2, hT2⟩ := H''.NT
 refine C5 (W := [1, 2, 3, 4, 5, 6].zip (x.objs txt p tp .none ln tl (.str ⟨#[]⟩ (tk2 + 1575)))) (Zs U x txt p tp _ ln tl _ N tk N2 tk2 txt p tp .none ln tl tt _ _ _ _) hA (dl hD) H'' rfl rfl rfl hN2 hT2 rfl rfl (by decide) (by decide) trivial ?_
 intro s3 H3 K3 _ _
 refine cont s3 _ H3 (K.trans_new (Y := [(My U.P N tk).L]) (K'.trans K3) ?_)
 intro y hy
 have : y = N + 884 := by simpa [My] using hy
 lia
end
section
variable (U : Fl) (x : SX) (txt : Str) (p : Int) (tp : Nat) (st : Value) (ln : Int) (tl : Nat) (tok : Value) (N tk : Nat)
noncomputable def D9 (P : Params) (x : SX) (tk : Nat) : Obj := A0 [zE P ⟨#[115, 101, 108, 102]⟩ tk (.ref x.inst)] 1
noncomputable abbrev Ag9 : Nat := (x2 0x202100001000100018505050552011000100001800880102100001000100017007701)
noncomputable abbrev Wc : Res := Ay 400 U.W x.addrs 6 N tk [] (x.objs txt p tp st ln tl tok) 130 Ag9
  (.call (.ref 790) ⟨[.ref x.inst], []⟩) .base (.pure (.again (.call (.ref 790) ⟨[.ref x.inst], []⟩)))
theorem Akd : Ev 400 U.W x.addrs 6 N tk [] (x.objs txt p tp st ln tl tok) 130 Ag9
  (.call (.ref 790) ⟨[.ref x.inst], []⟩) .base (.pure (.again (.call (.ref 790) ⟨[.ref x.inst], []⟩)))
  [6, 7, 0, 1, 2, 3, 4, 5] (.call (.call (.ref 761) ⟨[.ref x.inst], []⟩) 2)
  ((D9 U.P x (tk + 1573) :: D9 U.P x (tk + 1574) :: x.objs txt p tp st ln tl tok).map some) 2 5 [] := by
 kernel_rfl
theorem Aa8 (M K : Nat) (txt' : Str) (p' : Int) (tp' : Nat) (st' : Value) (ln' : Int) (tl' : Nat) (tok' : Value) (u : Nat) (us : List Nat) (tv : Nat) :
  Ev 400 U.W ((N + 884) :: (N + 884 + 1) :: x.addrs) 8 M K [] (D9 U.P x (tk + 1573) :: D9 U.P x (tk + 1574) :: x.objs txt' p' tp' st' ln' tl' tok') 160
   (x2 0x100004033000300003111120040330003000032000040330003000032204033000300003222)
   (Wc U x txt p tp st ln tl tok N tk).c (Wc U x txt p tp st ln tl tok N tk).κ (Cb (Wc U x txt p tp st ln tl tok N tk).t (.ok (.ret (.str ⟨⟨u :: us⟩⟩ tv))))
   [2, 3, 4, 5, 6, 7] (.fin (.ret (.str ⟨⟨u :: us⟩⟩ tv))) ((x.objs txt' p' tp' st' ln' tl' tok').map some) 0 7 [] := by
 obtain ⟨b, _⟩ := U; cases b <;> kernel_rfl
end
noncomputable def nxC (P : Params) (L : Nat) : Code := .func (Bl P 790) (D5 P 790 789 L)
noncomputable def nx2 (P : Params) : List Stmt := [B5 (Bl P 790) 0, B5 (Bl P 790) 1]
noncomputable def Fe (P : Params) (x : SX) (tf tk : Nat) : Obj := A0 [zE P ⟨#[115, 101, 108, 102]⟩ tf (.ref x.inst), zE P ⟨#[116, 111, 107, 101, 110]⟩ tk .none] 2
noncomputable def Ox (P : Params) (x : SX) (tf tk : Nat) : Obj := A0 [zE P ⟨#[115, 101, 108, 102]⟩ tf (.ref x.inst), zE P ⟨#[114, 97, 119]⟩ tk .none] 2
noncomputable def Gi (t : Nat) : Obj := ⟨.type "StopIteration", none, .fields #[.ref t, .none, .none, .none, .bool false, .none], #[]⟩
section
variable (U : Fl) (x : SX) (txt : Str) (p : Int) (tp : Nat) (st : Value) (ln : Int) (tl : Nat) (tok : Value) (N tk : Nat)
theorem Yu : Bl U.P 790 = nx2 U.P ++ [B5 (Bl U.P 790) 2] := by kernel_rfl
theorem Af3 : Ev 400 U.W x.addrs 6 N tk [] (x.objs txt p tp st ln tl tok) 30 (x2 0x207701)
  (.call (.ref 790) ⟨[.ref x.inst], []⟩) .base (.pure (.again (.call (.ref 790) ⟨[.ref x.inst], []⟩)))
  [6, 0, 1, 2, 3, 4, 5] (.again (nxC U.P (N + 884))) ((D9 U.P x (tk + 1573) :: x.objs txt p tp st ln tl tok).map some) 1 1 [] := by
 kernel_rfl
noncomputable abbrev nxT (U : Fl) (L : Nat) : Sem Fin := PySem.W.R.bindR (Hj (nx2 U.P) (D5 U.P 790 789 L)) fun f => .pure (.done f)
variable (L tf : Nat)
noncomputable abbrev Aig : Nat := (x2 0x203200002000200028606060663022000200002800880103200002000200021)
noncomputable abbrev nxP : Res := Ay 400 U.W (L :: x.addrs) 7 N tk [] (D9 U.P x tf :: x.objs txt p tp st ln tl tok) 120 Aig
  (nxC U.P L) .base (nxT U L)
theorem Afp : Ev 400 U.W (L :: x.addrs) 7 N tk [] (D9 U.P x tf :: x.objs txt p tp st ln tl tok) 120 Aig
  (nxC U.P L) .base (nxT U L)
  [0, 7, 1, 2, 3, 4, 5, 6] (.call (.call (.ref 761) ⟨[.ref x.inst], []⟩) 2) ((D9 U.P x tf :: D9 U.P x (tk + 1573) :: x.objs txt p tp st ln tl tok).map some) 1 4 [] := by
 kernel_rfl
variable (M K : Nat) (p' : Int) (tp' : Nat) (ln' : Int) (tl' tt' : Nat)
noncomputable abbrev Aj6 : Nat := (x2 0x403300030000311114033000300003280808088403300030000320040330003000032204033000300003222)
noncomputable abbrev Ww : Res := Ay 400 U.W (L :: (N + 884) :: x.addrs) 8 M K [] (D9 U.P x tf :: D9 U.P x (tk + 1573) :: x.objs txt p' tp' .none ln' tl' (.str ⟨#[]⟩ tt')) 200 Aj6
  (nxP U x txt p tp st ln tl tok N tk L tf).c (nxP U x txt p tp st ln tl tok N tk L tf).κ (Cb (nxP U x txt p tp st ln tl tok N tk L tf).t (.ok (.ret .none)))
theorem Zf : Ev 400 U.W (L :: (N + 884) :: x.addrs) 8 M K [] (D9 U.P x tf :: D9 U.P x (tk + 1573) :: x.objs txt p' tp' .none ln' tl' (.str ⟨#[]⟩ tt')) 200 Aj6
  (nxP U x txt p tp st ln tl tok N tk L tf).c (nxP U x txt p tp st ln tl tok N tk L tf).κ (Cb (nxP U x txt p tp st ln tl tok N tk L tf).t (.ok (.ret .none)))
  [0, 1, 2, 3, 4, 5, 6, 7] .stk ((Fe U.P x tf (K + 1580) :: Ox U.P x (tk + 1573) (K + 1573) :: x.objs txt p' tp' .none ln' tl' (.str ⟨#[]⟩ tt')).map some) 0 9 [] := by
 obtain ⟨b, _⟩ := U; cases b <;> kernel_rfl
theorem Aap (q : Pos) (below : List (Code × Pos)) : Ev 400 U.W (L :: (N + 884) :: x.addrs) 8 M (K + 9) [] (Fe U.P x tf (K + 1580) :: Ox U.P x (tk + 1573) (K + 1573) :: x.objs txt p' tp' .none ln' tl' (.str ⟨#[]⟩ tt')) 80 (x2 0xa000aaaaaaaaaa00aa0aa)
  (Ww U x txt p tp st ln tl tok N tk L tf M K p' tp' ln' tl' tt').c (Ww U x txt p tp st ln tl tok N tk L tf M K p' tp' ln' tl' tt').κ (kSt (Ww U x txt p tp st ln tl tok N tk L tf M K p' tp' ln' tl' tt').t (((Ww U x txt p tp st ln tl tok N tk L tf M K p' tp' ln' tl' tt').c, q) :: below))
  [9, 10, 0, 2, 3, 4, 5, 6, 7] (.exc (.ref (M + 884 + 1))) ((Gi (M + 884 + 2) :: ⟨.type "tuple", none, .seq #[] 0, #[]⟩ :: Fe U.P x tf (K + 1580) :: x.objs txt p' tp' .none ln' tl' (.str ⟨#[]⟩ tt')).map some) 3 0 [] := by
 obtain ⟨b, _⟩ := U; cases b <;> kernel_rfl
end
theorem Wa {x : SX} {txt : Str} {p : Int} {tp : Nat} {st : Value} {ln : Int} {tl : Nat} {tok : Value} : (LZ x txt p tp st ln tl tok).map (·.1) = x.addrs := rfl
theorem At.swap {w : World} {s s' : Shared} {F L L' : List (Nat × Obj)} (H : At w s (F ++ L)) (H' : At w s' L') (K : Keeps (L.map (·.1)) s s') (e : L'.map (·.1) = L.map (·.1)) : At w s' (F ++ L') :=
 (At.frame (L := L) (M := F) (H.perm List.perm_append_comm) H' K (fun p hp => .inl (e ▸ List.mem_map_of_mem hp))).perm List.perm_append_comm
structure W2 where
 q : Bool
 it : List (Bool × Nat)
 sep : Nat
noncomputable def W2.enc (d : W2) : List Nat := if d.q then 34 :: (Ai d.it ++ [34, d.sep]) else Ai d.it ++ [d.sep]
noncomputable def W2.val (d : W2) : List Nat := Cm d.it
structure W2.ok (d : W2) : Prop where
 ne : d.it ≠ []
 sep : d.sep ∈ [10, 9, 13, 32]
 fit : d.it.length <= sizeLine
 bare : d.q = false -> ∀ i ∈ d.it, P4 i /\ O1 i
 quo : d.q = true -> ∀ i ∈ d.it, Aas i /\ Rt i
section
variable {U : Fl} {x : SX} {txt : Str}
theorem Aji {p : Int} {tp ts : Nat} {ln : Int} {tl tt : Nat} (h2 : 2 <= txt.length) (hfit : txt.length <= sizeLine) (d : W2) (hd : d.ok) {pre rest : List Nat}
  (ht : txt.cps.toList = pre ++ (d.enc ++ rest)) (hp : p = pre.length)
  (hA : A.handled = none) (hD : A.depth <= 390) (H : At U.W s (LZ x txt p tp (.str ⟨#[32]⟩ (ts + 1573)) ln tl (.str ⟨#[]⟩ tt)))
  (cont : ∀ s' tp' ts' tl' tt' tv, At U.W s' (LZ x txt (p + d.enc.length) tp' (.str ⟨#[32]⟩ (ts' + 1573)) (B3 ln d.sep) tl' (.str ⟨#[]⟩ tt')) -> Keeps x.addrs s s' -> R (.ok (.ret (.str ⟨⟨d.val⟩⟩ tv))) s') :
  codeAny (Ak U.W) A (.call (.ref 761) ⟨[.ref x.inst], []⟩) R s := by
 obtain ⟨q, it, sep⟩ := d
 cases it with
 | nil => exact (hd.ne rfl).elim
 | cons i items =>
  obtain ⟨e, v⟩ := i
  refine Aga (p' := p + (W2.enc ⟨q, (e, v) :: items, sep⟩).length) (ln' := B3 ln sep) (u := v) (us := Cm items) hA hD H ?_ cont
  intro g es A' s' R' hA' hD' H' post
  have hl : 1 + items.length <= sizeLine := by have := hd.fit; simp at this; lia
  cases q with
  | false =>
   have hb := hd.bare rfl
   refine X3 h2 hfit e (hb _ (.head _)).2 (fun i hi => (hb i (.tail _ hi)).2) hd.sep (pre := pre) (rest := rest) (by rw [ht]; simp [W2.enc]) hp hl hA' hD' H' ?_
   have e2 : p + ((W2.enc ⟨false, (e, v) :: items, sep⟩).length : Int) = p + (Ai ((e, v) :: items)).length + 1 := by simp [W2.enc]; lia
   rw [e2] at post
   exact post
  | true =>
   have hb := hd.quo rfl
   refine Abx h2 hfit e (hb _ (.head _)).2 (fun i hi => (hb i (.tail _ hi)).2) hd.sep (pre := pre) (rest := rest) (by rw [ht]; simp [W2.enc]) hp hl hA' hD' H' ?_
   have e2 : p + ((W2.enc ⟨true, (e, v) :: items, sep⟩).length : Int) = p + (Ai ((e, v) :: items)).length + 1 + 1 + 1 := by simp [W2.enc]; lia
   rw [e2] at post
   exact post
theorem Ago {p : Int} {tp ts : Nat} {ln : Int} {tl tt : Nat} (h2 : 2 <= txt.length) (hfit : txt.length <= sizeLine) (d : W2) (hd : d.ok) {pre rest : List Nat}
  (ht : txt.cps.toList = pre ++ (d.enc ++ rest)) (hp : p = pre.length)
  (hA : A.handled = none) (hD : A.depth <= 380) (H : At U.W s (LZ x txt p tp (.str ⟨#[32]⟩ (ts + 1573)) ln tl (.str ⟨#[]⟩ tt)))
  (cont : ∀ s' tp' ts' tl' tt' tv, At U.W s' (LZ x txt (p + d.enc.length) tp' (.str ⟨#[32]⟩ (ts' + 1573)) (B3 ln d.sep) tl' (.str ⟨#[]⟩ tt')) -> Keeps x.addrs s s' -> R (.ok (.ret (.str ⟨⟨d.val⟩⟩ tv))) s') :
  codeAny (Ak U.W) A (.call (.ref 790) ⟨[.ref x.inst], []⟩) R s := by
 obtain ⟨N, tk, hN, hT⟩ := H.NT
 refine Aa (C5 (W := [6, 7, 0, 1, 2, 3, 4, 5].zip (D9 U.P x (tk + 1573) :: D9 U.P x (tk + 1574) :: x.objs txt p tp (.str ⟨#[32]⟩ (ts + 1573)) ln tl (.str ⟨#[]⟩ tt)))
  (Akd U x txt p tp _ ln tl _ N tk) hA (dl hD) H rfl rfl rfl hN hT rfl rfl (by decide) (by decide) trivial ?_)
 intro s' H' K _ hSz
 intro A' hA' hD'
 have HL : At U.W s' ([(N + 884, D9 U.P x (tk + 1573)), (N + 884 + 1, D9 U.P x (tk + 1574))] ++ LZ x txt p tp (.str ⟨#[32]⟩ (ts + 1573)) ln tl (.str ⟨#[]⟩ tt)) := H'
 refine Aji h2 hfit d hd ht hp hA' (Dv hD' hD) HL.drop ?_
 intro s'' tp' ts' tl' tt' tv H'' K''
 have HL2 := HL.swap H'' K'' (Wa.trans Wa.symm)
 obtain ⟨N2, tk2, hN2, hT2⟩ := HL2.NT
 obtain ⟨q, it, sep⟩ := d
 cases it with
 | nil => exact (hd.ne rfl).elim
 | cons i items =>
  refine C5 (W := [2, 3, 4, 5, 6, 7].zip (x.objs txt (p + (W2.enc ⟨q, i :: items, sep⟩).length) tp' (.str ⟨#[32]⟩ (ts' + 1573)) (B3 ln sep) tl' (.str ⟨#[]⟩ tt')))
   (Aa8 U x txt p tp _ ln tl _ N tk N2 tk2 txt _ tp' _ (B3 ln sep) tl' _ i.2 (Cm items) tv) hA (dl hD) HL2 rfl rfl rfl hN2 hT2 rfl rfl (by decide) (by decide) trivial ?_
  intro s3 H3 K3 _ _
  refine cont s3 tp' ts' tl' tt' tv H3 (K.trans_new (Y := [N + 884, N + 884 + 1]) ((K''.mono (fun y hy => List.mem_append_right _ hy)).trans K3) ?_)
  intro y hy
  have : y = N + 884 \/ y = N + 884 + 1 := by simpa using hy
  lia
end
noncomputable def Aci (o : Obj) : FuncData := match o.data with
 | .func fd => fd
 | _ => R3
noncomputable def Aec (o : Obj) : List Value := match o.data with
 | .fields vs => vs.toList
 | _ => []
noncomputable def Qr (x : Res) (j : Nat) : Obj := match x.T.get j with
 | some o => o
 | none => ⟨.none, none, .plain, #[]⟩
noncomputable def B9 : Obj := ⟨.none, none, .fields #[], #[]⟩
noncomputable def Agt : List Int -> Nat -> Int
 | [], _ => 0
 | a :: l, j => match j with
  | 0 => a
  | j + 1 => Agt l j
noncomputable def Ls (P : Params) (x : NL) (TL : Nat) (a : Nat -> Nat) : List DictEntry := [zE P ⟨#[114, 101, 97, 100]⟩ (a 0) (.ref x.rd), zE P ⟨#[115, 116, 114, 101, 97, 109]⟩ (a 1) (.ref x.fn), zE P ⟨#[108, 101, 120, 101, 114]⟩ (a 2) (.ref x.inst), zE P ⟨#[116, 111, 107, 101, 110, 115]⟩ (a 3) (.ref TL)]
noncomputable def Jr (P : Params) (x : NL) (TL : Nat) (a : Nat -> Nat) (tok : Value) : Obj := A0 (Ls P x TL a ++ [zE P ⟨#[116, 111, 107, 101, 110]⟩ (a 4) tok]) 5
noncomputable def Ais (P : Params) (x : NL) (L : Nat) : Env := { D5 P 852 851 L with cells := [(⟨#[112, 108, 97, 99, 101]⟩, x.cp), (⟨#[116, 101, 120, 116]⟩, x.ct)] }
noncomputable def Fp (P : Params) (x : NL) (L : Nat) : Code := .whileLoop (Wn (B5 (Bl P 852) 7)) (Sv (B5 (Bl P 852) 7)) (whE (B5 (Bl P 852) 7)) (Ais P x L)
section
variable (U : Fl) (txt : Str) (tt : Nat) (N tk : Nat)
noncomputable abbrev Aje : Nat := (x2 0x2016f17f000017f00017f00017f2222216f16f16f017f00017f017f0017f000017f18f16f16f16f017f00017f017f0017f000017f18f16f16f16f017f00017f017f0017f000017f18f18f16f16f16f017f00017f017f0017f000017f18f0018f18f18f18f01000017f017f0000000000000000000000000000000002015f15f15f14f14f14f14f014f014f222200011110220001111044003301)
noncomputable abbrev Hd : Res := Ay 330 U.W [847] 1 N tk [] [B9] 340 Aje
  (.call (.ref 852) ⟨[.str txt tt], []⟩) .base (.pure (.again (.call (.ref 852) ⟨[.str txt tt], []⟩)))
noncomputable def Px : NL where
 inst := N+884+21
 dict := N+884+20
 fn := N+884+18
 fnD := N+884+19
 rd := N+884+11
 cd := N+884+10
 ct := N+884+1
 cp := N+884+2
 pl := N+884+3
 pb := N+884+23
 t := Qi [tk+1595, tk+1597, tk+1600, tk+1598, tk+1602, tk+1590, tk+1574, tk+1575, tt]
 h := Agt [PyData.keyHash U.P ⟨#[108, 105, 110, 101, 110, 111]⟩, PyData.keyHash U.P ⟨#[105, 110, 115, 116, 114, 101, 97, 109]⟩, PyData.keyHash U.P ⟨#[119, 104, 105, 116, 101, 115, 112, 97, 99, 101]⟩, PyData.keyHash U.P ⟨#[112, 117, 115, 104, 98, 97, 99, 107]⟩, PyData.keyHash U.P ⟨#[114, 101, 97, 100]⟩]
 fdL := Aci (Qr (Hd U txt tt N tk) 19)
 mod := (Aci (Qr (Hd U txt tt N tk) 12)).pyModule
 ctu := (Aci (Qr (Hd U txt tt N tk) 12)).closureTuple
 cdR := (Aec (Qr (Hd U txt tt N tk) 11)).tail.tail
noncomputable def tkA (tk : Nat) (k : Nat) : Nat -> Nat := Qi [tk+1582, tk+1588, tk+1603, tk+1604, k]
noncomputable def Mw (N : Nat) : Obj := ⟨.none, none, .fields #[.int 882 0, .int 4 0, .ref (N+884+10), .int 885 0, .int 13 0, .ref (N+884+17)], #[]⟩
theorem Ahu : Ev 330 U.W [847] 1 N tk [] [B9] 340 Aje
  (.call (.ref 852) ⟨[.str txt tt], []⟩) .base (.pure (.again (.call (.ref 852) ⟨[.str txt tt], []⟩)))
  [1, 25, 22, 21, 19, 20, 12, 11, 2, 3, 4, 24, 0] (.call (.call (.ref 72) ⟨[.ref (N+884+21)], []⟩) 1)
  (((A0 (Ls U.P (Px U txt tt N tk) (N+884+24) (tkA tk 0)) 4 :: A9 [] 0 :: (Px U txt tt N tk).objs U.P txt 0 (tk+1573) 1 (tk+1593)) ++ ([Mw N] : List Obj)).map some) 25 32 [] := by
 kernel_rfl
end
section
variable (U : Fl) (txt : Str) (tt : Nat) (N tk : Nat)
noncomputable abbrev Us (M K : Nat) (p : Int) (tp : Nat) (ln : Int) (tl : Nat) (tok : Str) (tv : Nat) : Res := Ay 330 U.W ((N+884) :: (N+884+24) :: (Px U txt tt N tk).addrs) 12 M K [] (A0 (Ls U.P (Px U txt tt N tk) (N+884+24) (tkA tk 0)) 4 :: A9 [] 0 :: (Px U txt tt N tk).objs U.P txt p tp ln tl) 30 0x020101
  (Hd U txt tt N tk).c (Hd U txt tt N tk).κ (Cb (Hd U txt tt N tk).t (.ok (.ret (.str tok tv))))
theorem Ah1 (M K : Nat) (p : Int) (tp : Nat) (ln : Int) (tl : Nat) (tok : Str) (tv : Nat) : Ev 330 U.W ((N+884) :: (N+884+24) :: (Px U txt tt N tk).addrs) 12 M K [] (A0 (Ls U.P (Px U txt tt N tk) (N+884+24) (tkA tk 0)) 4 :: A9 [] 0 :: (Px U txt tt N tk).objs U.P txt p tp ln tl) 30 0x020101
  (Hd U txt tt N tk).c (Hd U txt tt N tk).κ (Cb (Hd U txt tt N tk).t (.ok (.ret (.str tok tv))))
  [0, 1, 2, 3, 4, 5, 6, 7, 8, 9, 10, 11] (.call (Fp U.P (Px U txt tt N tk) (N+884)) 1)
  ((Jr U.P (Px U txt tt N tk) (N+884+24) (tkA tk (K+1573)) (.str tok tv) :: A9 [] 0 :: (Px U txt tt N tk).objs U.P txt p tp ln tl).map some) 0 1 [] := by
 kernel_rfl
theorem Ah4 (M K M' K' : Nat) (p p' : Int) (tp tp' : Nat) (ln ln' : Int) (tl tl' : Nat) (tok : Str) (tv : Nat) (tok' : Value) (xs : List Value) (n a4 : Nat) : Ev 330 U.W ((N+884) :: (N+884+24) :: (Px U txt tt N tk).addrs) 12 M' K' [] (Jr U.P (Px U txt tt N tk) (N+884+24) (tkA tk a4) tok' :: A9 xs n :: (Px U txt tt N tk).objs U.P txt p' tp' ln' tl') 50 (x2 0x403300030000311)
  (Us U txt tt N tk M K p tp ln tl tok tv).c (Us U txt tt N tk M K p tp ln tl tok tv).κ (Cb (Us U txt tt N tk M K p tp ln tl tok tv).t (.ok .next))
  [1, 12] (.fin (.ret (.ref (M'+884)))) (om [A9 xs n, ⟨.type "tuple", none, .seq #[.ref (N+884+24), .int ln' tl'] 0, #[]⟩]) 1 1 [] := by
 kernel_rfl
end
section
variable (U : Fl) (x : NL) (L TL : Nat) (a : Nat -> Nat) (txt : Str) (p : Int) (tp : Nat) (ln : Int) (tl : Nat) (tok : Str) (tv : Nat) (xs : List Value) (n : Nat) (N tk : Nat)
noncomputable abbrev U6 : Res := Ay 340 U.W (L :: TL :: x.addrs) 12 N tk [.u ⟨.none, 0, [1], [(1, A9 (xs ++ [.str tok tv]) (n + 1))], []⟩] (Jr U.P x TL a (.str tok tv) :: A9 xs n :: x.objs U.P txt p tp ln tl) 80 (x2 0x2043000030003000310fef1222211ef010)
  (Fp U.P x L) .base (.pure (.again (Fp U.P x L)))
theorem Aax : Ev 340 U.W (L :: TL :: x.addrs) 12 N tk [.u ⟨.none, 0, [1], [(1, A9 (xs ++ [.str tok tv]) (n + 1))], []⟩] (Jr U.P x TL a (.str tok tv) :: A9 xs n :: x.objs U.P txt p tp ln tl) 80 (x2 0x2043000030003000310fef1222211ef010)
  (Fp U.P x L) .base (.pure (.again (Fp U.P x L)))
  [0, 1, 2, 3, 4, 5, 6, 7, 8, 9, 10, 11] (.call (.call (.ref 72) ⟨[.ref x.inst], []⟩) 1) ((Jr U.P x TL a (.str tok tv) :: A9 (xs ++ [.str tok tv]) (n + 1) :: x.objs U.P txt p tp ln tl).map some) 0 1
  [Ac pw U.W (.call (.builtin "list.append") ⟨[.ref TL, .str tok tv], []⟩) (tk+1574) (N+884) [(TL, A9 xs n)] [(TL, A9 (xs ++ [.str tok tv]) (n + 1))] [] .none 0, Pc tok ⟨#[]⟩ = true] := by
 obtain ⟨b, _⟩ := U; cases b <;> kernel_rfl
theorem Ab8 (M K : Nat) (p' : Int) (tp' : Nat) (ln' : Int) (tl' : Nat) (tok' : Str) (tv' : Nat) : Ev 340 U.W (L :: TL :: x.addrs) 12 M K [] (Jr U.P x TL a (.str tok tv) :: A9 (xs ++ [.str tok tv]) (n + 1) :: x.objs U.P txt p' tp' ln' tl') 30 0x020101
  (U6 U x L TL a txt p tp ln tl tok tv xs n N tk).c (U6 U x L TL a txt p tp ln tl tok tv xs n N tk).κ (Cb (U6 U x L TL a txt p tp ln tl tok tv xs n N tk).t (.ok (.ret (.str tok' tv'))))
  [0, 1, 2, 3, 4, 5, 6, 7, 8, 9, 10, 11] (.again (Fp U.P x L)) ((Jr U.P x TL a (.str tok' tv') :: A9 (xs ++ [.str tok tv]) (n + 1) :: x.objs U.P txt p' tp' ln' tl').map some) 0 1 [] := by
 obtain ⟨b, _⟩ := U; cases b <;> kernel_rfl
theorem Ag2 : Ev 340 U.W (L :: TL :: x.addrs) 12 N tk [] (Jr U.P x TL a (.str ⟨#[]⟩ tv) :: A9 xs n :: x.objs U.P txt p tp ln tl) 30 0x00000100
  (Fp U.P x L) .base (.pure (.again (Fp U.P x L)))
  [0, 1, 2, 3, 4, 5, 6, 7, 8, 9, 10, 11] (.fin .next) ((Jr U.P x TL a (.str ⟨#[]⟩ tv) :: A9 xs n :: x.objs U.P txt p tp ln tl).map some) 0 1 [] := by
 obtain ⟨b, _⟩ := U; cases b <;> kernel_rfl
end
noncomputable def Ic (X : List Nat) (i : Nat) (o : Obj) : Obj := if i ∈ X then { o with data := .freed } else o
noncomputable def Lx (h : Heap) (X : List Nat) : Heap := ⟨h.objs.mapIdx (Ic X), h.life⟩
theorem Nh {h : Heap} {X : List Nat} {b : Nat} (hb : b ∈ X) : (Lx h X).get? b = none := by
 cases hx : (Lx h X).get? b with
 | none => rfl
 | some o =>
  obtain ⟨h1, h2⟩ := Heap.get?_some_iff.mp hx
  have h3 : (h.objs.mapIdx (Ic X))[b]? = some o := h1
  rw [Array.getElem?_mapIdx] at h3
  cases hy : h.objs[b]? with
  | none => rw [hy] at h3; cases h3
  | some o' =>
   rw [hy] at h3
   have h4 : Ic X b o' = o := by simpa using h3
   unfold Ic at h4
   rw [if_pos hb] at h4
   subst h4
   cases h2
theorem Tz {h : Heap} {X : List Nat} {b : Nat} {o : Obj} (e : (Lx h X).get? b = some o) : h.get? b = some o /\ b ∉ X := by
 have hb : b ∉ X := fun m => by rw [Nh m] at e; cases e
 obtain ⟨h1, h2⟩ := Heap.get?_some_iff.mp e
 have h3 : (h.objs.mapIdx (Ic X))[b]? = some o := h1
 rw [Array.getElem?_mapIdx] at h3
 cases hy : h.objs[b]? with
 | none => rw [hy] at h3; cases h3
 | some o' =>
  rw [hy] at h3
  have h4 : Ic X b o' = o := by simpa using h3
  unfold Ic at h4
  rw [if_neg hb] at h4
  subst h4
  exact ⟨Heap.get?_some_iff.mpr ⟨hy, h2⟩, hb⟩
theorem U3 {h : Heap} {X : List Nat} {b : Nat} {o : Obj} (e : h.get? b = some o) (hb : b ∉ X) : (Lx h X).get? b = some o := by
 obtain ⟨h1, h2⟩ := Heap.get?_some_iff.mp e
 refine Heap.get?_some_iff.mpr ⟨?_, h2⟩
 show (h.objs.mapIdx (Ic X))[b]? = some o
 rw [Array.getElem?_mapIdx, h1]
 unfold Ic
 simp [hb]
noncomputable def I8 : List (Nat × Obj) -> List Env -> Prop
 | [], [] => True
 | p :: F, e :: es => e.scope.kind ≠ .module /\ e.frame = some p.1 /\ (∀ vs, p.2.data ≠ .fields vs) /\ I8 F es
 | _, _ => False
theorem I8.fun {base h : Heap} : ∀ {F : List (Nat × Obj)} {es : List Env}, I8 F es -> (∀ p ∈ F, h.get? p.1 = some p.2 /\ base.get? p.1 = none) -> h.FunFrames base es
 | [], [], _, _ => trivial
 | p :: F, e :: es, hf, hp => ⟨hf.1, ⟨p.1, p.2, hf.2.1, (hp p (.head _)).2, (hp p (.head _)).1, hf.2.2.1⟩, I8.fun hf.2.2.2 fun q hq => hp q (.tail _ hq)⟩
 | [], _ :: _, hf, _ => hf.elim
 | _ :: _, [], hf, _ => hf.elim
theorem I8.nf {F : List (Nat × Obj)} {es : List Env} (h : I8 F es) : ∀ p ∈ F, ∀ vs, p.2.data ≠ .fields vs := by
 induction F generalizing es with
 | nil => intro p hp; cases hp
 | cons q F ih =>
  cases es with
  | nil => exact h.elim
  | cons e es =>
   intro p hp
   rcases List.mem_cons.mp hp with rfl | hp
   ·exact h.2.2.1
   ·exact ih h.2.2.2 p hp
noncomputable def Dy (sl : Nat -> Array (Option Value)) (F : List (Nat × Obj)) : List (Nat × Obj) := F.map fun p => (p.1, { p.2 with slots := sl p.1 })
theorem M7 (sl : Nat -> Array (Option Value)) (F : List (Nat × Obj)) : (Dy sl F).map (·.1) = F.map (·.1) := by
 unfold Dy
 rw [List.map_map]
 rfl
theorem I8.set (sl : Nat -> Array (Option Value)) : ∀ {F : List (Nat × Obj)} {es : List Env}, I8 F es -> I8 (Dy sl F) es
 | [], [], _ => trivial
 | _ :: _, _ :: _, h => ⟨h.1, h.2.1, h.2.2.1, I8.set sl h.2.2.2⟩
 | [], _ :: _, h => h.elim
 | _ :: _, [], h => h.elim
section
variable {w : World}
theorem S9 {b : List Stmt} {env : Env} {es : List Env} {F L : List (Nat × Obj)} {e t : Nat} {ot : Obj} {Q : Unit -> Shared -> Prop} {E : Value -> Shared -> Prop}
  (hfr : A.frames = some es) (hF : I8 F (env :: es)) (H : At w s ((e, Gi t) :: (t, ot) :: (F ++ L))) (ht : s.heap.objs.size = t + 1)
  (cont : ∀ s' vs dd sl sls, At w s' ((e, ⟨.type "StopIteration", dd, .fields vs, sl⟩) :: (Dy sls F ++ L)) -> Keeps (e :: F.map (·.1)) s s' -> Q () s') :
  wpOwn (Ak w) A (.func b env) (leaving env (.ref e)) Q E s := by
 have hfr' : (A.under (.func b env)).frames = some (env :: es) := by
  show pushEnvs (Code.envs (.func b env)) A.frames = _
  rw [hfr]
  rfl
 obtain ⟨F0, hF0⟩ : ∃ X : List Nat, X = e :: F.map (·.1) := ⟨_, rfl⟩
 have nd := H.nd
 simp only [List.map_cons, List.map_append, List.nodup_cons, List.mem_cons, List.mem_append, not_or] at nd
 obtain ⟨⟨ne1, ne2, ne3⟩, ⟨nt1, nt2⟩, nd2⟩ := nd
 obtain ⟨nF, nL, nFL⟩ := List.nodup_append.mp nd2
 have hm : ∀ p ∈ F, p.1 ∈ F0 := fun p hp => hF0 ▸ .tail _ (List.mem_map_of_mem hp)
 have ho : ∀ p ∈ F, s.heap.get? p.1 = some p.2 := fun p hp => H.own p (.tail _ (.tail _ (List.mem_append_left _ hp)))
 have he := H.own _ (.head _)
 have hfun : s.heap.FunFrames (Lx s.heap F0) (env :: es) := hF.fun fun p hp => ⟨ho p hp, Nh (hm p hp)⟩
 have hL : env.frame = some ((F.head?.map (·.1)).getD 0) := by
  cases F with
  | nil => exact hF.elim
  | cons p F => exact hF.2.1
 refine Cr (wpAny_leaving_first (base := Lx s.heap F0) (oe := Gi t) hfr' hfun hL he (fun b o hb => (Tz hb).1) (Nh (hF0 ▸ .head _)) rfl rfl fun h' hl => ?_)
 obtain ⟨l1, l2, l3, l4⟩ := hl
 obtain ⟨oe, vs, T, oT, ts, q1, q2, q3, _⟩ := l3
 obtain ⟨oc, od, oda, osl⟩ := oe
 have q2 : oc = .type "StopIteration" := q2
 have q3 : oda = .fields vs := q3
 subst q2 q3
 have keep : ∀ b o, s.heap.get? b = some o -> b ∉ F0 -> h'.get? b = some o := fun b o h1 h2 => l1 b o (U3 h1 h2)
 have tF : t ∉ F0 := by
  rw [hF0]
  intro m
  rcases List.mem_cons.mp m with m | m
  ·exact ne1 m.symm
  ·exact nt1 m
 have hsz : s.heap.objs.size <= h'.objs.size := by
  have h9 : t < h'.objs.size := Heap.lt_size (keep t ot (H.own _ (.tail _ (.head _))) tF)
  lia
 have hlow : ∀ a o, (Mq w.params).get a = some o -> a ∉ F0 := fun a o hk m => by
  have ha : a < 884 := (H.top a o hk).2
  have hn := Hv hk
  rw [hF0] at m
  rcases List.mem_cons.mp m with m | m
  ·have := H.hi _ (.head _); dsimp only at this; lia
  ·obtain ⟨p, hp, e1⟩ := List.mem_map.mp m
   have := H.hi p (.tail _ (.tail _ (List.mem_append_left _ hp)))
   lia
 refine cont _ vs od osl (fun b => ((h'.get? b).getD default).slots) ?_ (hF0 ▸ ⟨keep, hsz, rfl, rfl⟩)
 refine ⟨H.gens, fun a o ha => ⟨keep a o (H.top a o ha).1 (hlow a o ha), (H.top a o ha).2⟩, Nat.le_trans H.size hsz, H.toks, ?_, ?_, ?_⟩
 ·intro p hp
  rcases List.mem_cons.mp hp with rfl | hp
  ·exact q1
  ·rcases List.mem_append.mp hp with hp | hp
   ·unfold Dy at hp
    obtain ⟨q, hq, rfl⟩ := List.mem_map.mp hp
    obtain ⟨sl, hs⟩ := l4 q.1 q.2 (ho q hq) (hF.nf q hq)
    show h'.get? q.1 = _
    dsimp only
    rw [hs]
    rfl
   ·refine keep _ _ (H.own p (.tail _ (.tail _ (List.mem_append_right _ hp)))) fun m => ?_
    rw [hF0] at m
    have hpL : p.1 ∈ L.map (·.1) := List.mem_map_of_mem hp
    rcases List.mem_cons.mp m with m | m
    ·exact ne3 (m ▸ hpL)
    ·exact nFL _ m _ hpL rfl
 ·show (e :: ((Dy _ F ++ L).map (·.1))).Nodup
  rw [List.map_append, M7]
  refine List.nodup_cons.mpr ⟨fun m => ?_, List.nodup_append.mpr ⟨nF, nL, nFL⟩⟩
  rcases List.mem_append.mp m with m | m
  ·exact ne2 m
  ·exact ne3 m
 ·intro p hp
  rcases List.mem_cons.mp hp with rfl | hp
  ·exact H.hi (e, Gi t) (.head _)
  ·rcases List.mem_append.mp hp with hp | hp
   ·unfold Dy at hp
    obtain ⟨q, hq, rfl⟩ := List.mem_map.mp hp
    exact H.hi q (.tail _ (.tail _ (List.mem_append_left _ hq)))
   ·exact H.hi p (.tail _ (.tail _ (List.mem_append_right _ hp)))
end
theorem At.left {w : World} {L M : List (Nat × Obj)} (H : At w s (L ++ M)) : At w s L :=
 H.sub (fun p hp => List.mem_append_left _ hp) (by
  have := H.nd
  rw [List.map_append] at this
  exact (List.nodup_append.mp this).1)
theorem At.next {w : World} {s s' : Shared} {L L' M : List (Nat × Obj)} (H : At w s (L ++ M)) (H' : At w s' L') (K : Keeps (L.map (·.1)) s s') (h : ∀ p ∈ L', p.1 ∈ L.map (·.1) \/ s.heap.objs.size <= p.1) : At w s' (L' ++ M) := At.frame H H' K h
theorem Abi {α : Type} (a b c : List α) : ((a ++ b) ++ c).Perm ((a ++ c) ++ b) := by
 rw [List.append_assoc, List.append_assoc]
 exact List.Perm.append_left a List.perm_append_comm
section
variable {U : Fl} {x : SX} {txt : Str}
theorem Aee {p : Int} {tp ts : Nat} {ln : Int} {tl tt : Nat} {F : List (Nat × Obj)} {es : List Env} (hfit : txt.length <= sizeLine) (hp : p = txt.length)
  (hA : A.handled = none) (hD : A.depth <= 380) (hfr : A.frames = some es) (hF : I8 F es) (H : At U.W s (LZ x txt p tp (.str ⟨#[32]⟩ (ts + 1573)) ln tl (.str ⟨#[]⟩ tt) ++ F))
  (cont : ∀ s' tt' e vs dd sl sls, At U.W s' ((e, ⟨.type "StopIteration", dd, .fields vs, sl⟩) :: (LZ x txt p tp .none ln tl (.str ⟨#[]⟩ tt') ++ Dy sls F)) -> Keeps (x.addrs ++ F.map (·.1)) s s' -> s.heap.objs.size <= e -> R (.error (.ref e)) s') :
  codeAny (Ak U.W) A (.call (.ref 790) ⟨[.ref x.inst], []⟩) R s := by
 obtain ⟨N, tk, hN, hT⟩ := H.NT
 refine Aa (C5 (W := [6, 0, 1, 2, 3, 4, 5].zip (D9 U.P x (tk + 1573) :: x.objs txt p tp (.str ⟨#[32]⟩ (ts + 1573)) ln tl (.str ⟨#[]⟩ tt)))
  (Af3 U x txt p tp _ ln tl _ N tk) hA (dl hD) H.left rfl rfl rfl hN hT rfl rfl (by decide) (by decide) trivial ?_)
 intro s1 H1 K1 _ hSz1
 refine ⟨rfl, ?_⟩
 have H1a : At U.W s1 (((N + 884, D9 U.P x (tk + 1573)) :: LZ x txt p tp (.str ⟨#[32]⟩ (ts + 1573)) ln tl (.str ⟨#[]⟩ tt)) ++ F) :=
  At.next H (L' := (N + 884, D9 U.P x (tk + 1573)) :: LZ x txt p tp (.str ⟨#[32]⟩ (ts + 1573)) ln tl (.str ⟨#[]⟩ tt)) H1 K1 (fun q hq => by
   rcases List.mem_cons.mp hq with rfl | hq
   ·right; show s.heap.objs.size <= N + 884; lia
   ·exact .inl (List.mem_map_of_mem hq))
 unfold nxC
 refine Lz ?_
 rw [Yu]
 refine Bn (Bm (Rz ?_))
 obtain ⟨N1, tk1, hN1, hT1⟩ := H1a.NT
 refine C5 (W := [0, 7, 1, 2, 3, 4, 5, 6].zip (D9 U.P x (tk + 1573) :: D9 U.P x (tk1 + 1573) :: x.objs txt p tp (.str ⟨#[32]⟩ (ts + 1573)) ln tl (.str ⟨#[]⟩ tt)))
  (Afp U x txt p tp _ ln tl _ N1 tk1 (N + 884) (tk + 1573)) hA (dl hD) H1a.left rfl rfl rfl hN1 hT1 rfl rfl (by decide) (by decide) trivial ?_
 intro s2 H2 K2 _ hSz2
 have H2a : At U.W s2 (((N + 884, D9 U.P x (tk + 1573)) :: (N1 + 884, D9 U.P x (tk1 + 1573)) :: LZ x txt p tp (.str ⟨#[32]⟩ (ts + 1573)) ln tl (.str ⟨#[]⟩ tt)) ++ F) :=
  At.next H1a (L' := (N + 884, D9 U.P x (tk + 1573)) :: (N1 + 884, D9 U.P x (tk1 + 1573)) :: LZ x txt p tp (.str ⟨#[32]⟩ (ts + 1573)) ln tl (.str ⟨#[]⟩ tt)) H2 K2 (fun q hq => by
   rcases List.mem_cons.mp hq with rfl | hq
   ·exact .inl (.head _)
   ·rcases List.mem_cons.mp hq with rfl | hq
    ·right; show s1.heap.objs.size <= N1 + 884; lia
    ·exact .inl (.tail _ (List.mem_map_of_mem hq)))
 intro A' hA' hD'
 have H2b : At U.W s2 (([(N + 884, D9 U.P x (tk + 1573)), (N1 + 884, D9 U.P x (tk1 + 1573))] ++ F) ++ LZ x txt p tp (.str ⟨#[32]⟩ (ts + 1573)) ln tl (.str ⟨#[]⟩ tt)) :=
  H2a.perm (Abi [_, _] F _)
 refine Ae4 hfit hp hA' (Dv hD' hD) H2b.drop ?_
 intro s3 tt3 H3 K3
 have H3a := (H2b.swap H3 K3 rfl).perm (L' := ((N + 884, D9 U.P x (tk + 1573)) :: (N1 + 884, D9 U.P x (tk1 + 1573)) :: LZ x txt p tp .none ln tl (.str ⟨#[]⟩ tt3)) ++ F) (Abi [_, _] _ F)
 obtain ⟨N3, tk3, hN3, hT3⟩ := H3a.NT
 refine C5 (W := [0, 1, 2, 3, 4, 5, 6, 7].zip (Fe U.P x (tk + 1573) (tk3 + 1580) :: Ox U.P x (tk1 + 1573) (tk3 + 1573) :: x.objs txt p tp .none ln tl (.str ⟨#[]⟩ tt3)))
  (Zf U x txt p tp _ ln tl _ N1 tk1 (N + 884) (tk + 1573) N3 tk3 p tp ln tl tt3) hA (dl hD) H3a.left rfl rfl rfl hN3 hT3 rfl rfl (by decide) (by decide) trivial ?_
 intro s4 H4 K4 hT4 hSz4
 have H4a : At U.W s4 (((N + 884, Fe U.P x (tk + 1573) (tk3 + 1580)) :: (N1 + 884, Ox U.P x (tk1 + 1573) (tk3 + 1573)) :: LZ x txt p tp .none ln tl (.str ⟨#[]⟩ tt3)) ++ F) :=
  At.next H3a (L' := (N + 884, Fe U.P x (tk + 1573) (tk3 + 1580)) :: (N1 + 884, Ox U.P x (tk1 + 1573) (tk3 + 1573)) :: LZ x txt p tp .none ln tl (.str ⟨#[]⟩ tt3)) H4 K4 (fun q hq => .inl (List.mem_map_of_mem (f := (·.1)) hq))
 intro q below hl
 refine C5 (W := [9, 10, 0, 2, 3, 4, 5, 6, 7].zip (Gi (N3 + 884 + 2) :: ⟨.type "tuple", none, .seq #[] 0, #[]⟩ :: Fe U.P x (tk + 1573) (tk3 + 1580) :: x.objs txt p tp .none ln tl (.str ⟨#[]⟩ tt3)))
  (Aap U x txt p tp _ ln tl _ N1 tk1 (N + 884) (tk + 1573) N3 tk3 p tp ln tl tt3 q below) hA (dl hD) H4a.left rfl rfl rfl (by lia) (by lia) rfl rfl (by decide) (by decide) trivial ?_
 intro s5 H5 K5 _ hSz5
 have H5a : At U.W s5 (((N3 + 884 + 1, Gi (N3 + 884 + 2)) :: (N3 + 884 + 2, ⟨.type "tuple", none, .seq #[] 0, #[]⟩) :: (N + 884, Fe U.P x (tk + 1573) (tk3 + 1580)) :: LZ x txt p tp .none ln tl (.str ⟨#[]⟩ tt3)) ++ F) :=
  At.next H4a (L' := (N3 + 884 + 1, Gi (N3 + 884 + 2)) :: (N3 + 884 + 2, ⟨.type "tuple", none, .seq #[] 0, #[]⟩) :: (N + 884, Fe U.P x (tk + 1573) (tk3 + 1580)) :: LZ x txt p tp .none ln tl (.str ⟨#[]⟩ tt3)) H5 K5 (fun q hq => by
   rcases List.mem_cons.mp hq with rfl | hq
   ·right; show s4.heap.objs.size <= N3 + 884 + 1; lia
   ·rcases List.mem_cons.mp hq with rfl | hq
    ·right; show s4.heap.objs.size <= N3 + 884 + 2; lia
    ·rcases List.mem_cons.mp hq with rfl | hq
     ·exact .inl (.head _)
     ·exact .inl (.tail _ (.tail _ (List.mem_map_of_mem hq))))
 have H5b := H5a.perm (L' := (N3 + 884 + 1, Gi (N3 + 884 + 2)) :: (N3 + 884 + 2, ⟨.type "tuple", none, .seq #[] 0, #[]⟩) :: (((N + 884, Fe U.P x (tk + 1573) (tk3 + 1580)) :: F) ++ LZ x txt p tp .none ln tl (.str ⟨#[]⟩ tt3))) (by
   refine List.Perm.append_left [_, _, _] (List.perm_append_comm))
 show wpOwn _ _ _ (leaving _ _) _ _ s5
 have k3 := K3.size
 have hkd : (D5 U.P 790 789 (N + 884)).scope.kind = .function := by kernel_rfl
 refine S9 hfr (F := (N + 884, Fe U.P x (tk + 1573) (tk3 + 1580)) :: F) ⟨(by show (D5 U.P 790 789 (N + 884)).scope.kind ≠ .module; rw [hkd]; decide), rfl, (fun vs h => by cases h), hF⟩ H5b (by lia) ?_
 intro s6 vs dd sl sls H6 K6
 refine cont s6 tt3 (N3 + 884 + 1) vs dd sl sls (H6.sub ?_ ?_) ?_ (by lia)
 ·intro r hr
  rcases List.mem_cons.mp hr with rfl | hr
  ·exact .head _
  ·refine .tail _ ?_
   rcases List.mem_append.mp hr with hr | hr
   ·exact List.mem_append_right _ hr
   ·exact List.mem_append_left _ (.tail _ hr)
 ·have nd := H6.nd
  have pm : ((N3 + 884 + 1, (⟨.type "StopIteration", dd, .fields vs, sl⟩ : Obj)) :: (Dy sls ((N + 884, Fe U.P x (tk + 1573) (tk3 + 1580)) :: F) ++ LZ x txt p tp .none ln tl (.str ⟨#[]⟩ tt3))).Perm ((N + 884, { Fe U.P x (tk + 1573) (tk3 + 1580) with slots := sls (N + 884) }) :: (N3 + 884 + 1, (⟨.type "StopIteration", dd, .fields vs, sl⟩ : Obj)) :: (LZ x txt p tp .none ln tl (.str ⟨#[]⟩ tt3) ++ Dy sls F)) := by
   refine (List.Perm.swap _ _ _).trans (List.Perm.cons _ (List.Perm.cons _ ?_))
   exact List.perm_append_comm
  exact (List.nodup_cons.mp ((pm.map (·.1)).nodup_iff.mp nd)).2
 ·have kk : Keeps ([N + 884, N1 + 884, N3 + 884 + 1] ++ (x.addrs ++ F.map (·.1))) s1 s6 := by
   refine ((K2.mono ?_).trans ((K3.mono ?_).trans ((K4.mono ?_).trans ((K5.mono ?_).trans (K6.mono ?_)))))
   ·intro y hy
    rcases List.mem_cons.mp hy with rfl | hy
    ·simp
    ·exact List.mem_append_right _ (List.mem_append_left _ hy)
   ·intro y hy; exact List.mem_append_right _ (List.mem_append_left _ hy)
   ·intro y hy
    rcases List.mem_cons.mp hy with rfl | hy
    ·simp
    ·rcases List.mem_cons.mp hy with rfl | hy
     ·simp
     ·exact List.mem_append_right _ (List.mem_append_left _ hy)
   ·intro y hy
    rcases List.mem_cons.mp hy with rfl | hy
    ·simp
    ·rcases List.mem_cons.mp hy with rfl | hy
     ·simp
     ·exact List.mem_append_right _ (List.mem_append_left _ hy)
   ·intro y hy
    rcases List.mem_cons.mp hy with rfl | hy
    ·simp
    ·rcases List.mem_cons.mp hy with rfl | hy
     ·simp
     ·exact List.mem_append_right _ (List.mem_append_right _ hy)
  refine Keeps.trans_new (Y := [N + 884, N1 + 884, N3 + 884 + 1]) (K1.mono fun y hy => List.mem_append_left _ hy) kk ?_
  intro y hy
  have : y = N + 884 \/ y = N1 + 884 \/ y = N3 + 884 + 1 := by simpa using hy
  lia
end
end Mine
section
open PySem.Builtin.List PySem.Builtin
namespace Mine
noncomputable def elC (S inst : Nat) : Code := .builtin "list.extend.loop" ⟨[.ref S, .ref inst, .none], []⟩
noncomputable def elT (inst : Nat) : Sem Fin := PySem.W.R.bindR (Mm (.ref inst)) fun o => .pure (.done (Vx o))
section
variable (U : Fl) (x : SX) (S : Nat) (txt : Str) (p : Int) (tp : Nat) (st : Value) (ln : Int) (tl : Nat) (tok : Value) (N tk : Nat)
noncomputable abbrev J5 : Res := Ay 380 U.W x.addrs 6 N tk [] (x.objs txt p tp st ln tl tok) 30 (x2 0x200001) (elC S x.inst) .base (elT x.inst)
theorem Ab5 : Ev 380 U.W x.addrs 6 N tk [] (x.objs txt p tp st ln tl tok) 30 (x2 0x200001) (elC S x.inst) .base (elT x.inst)
  [0, 1, 2, 3, 4, 5] (.call (.call (.ref 790) ⟨[.ref x.inst], []⟩) 5) ((x.objs txt p tp st ln tl tok).map some) 0 0 [] := by
 kernel_rfl
theorem Sm : Qo (J5 U x S txt p tp st ln tl tok N tk).c (J5 U x S txt p tp st ln tl tok N tk).κ = [] := by
 kernel_rfl
theorem Y5 (M K : Nat) (v : Str) (tv : Nat) : Ev 380 U.W [] 0 M K [] [] 20 0 (J5 U x S txt p tp st ln tl tok N tk).c (J5 U x S txt p tp st ln tl tok N tk).κ (Cb (J5 U x S txt p tp st ln tl tok N tk).t (.ok (.ret (.str v tv))))
  [] (.fin (.ret (.str v tv))) [] 0 0 [] := by
 kernel_rfl
theorem Xm (M K e : Nat) (dd : Option Addr) (vs : Array Value) (sl : Array (Option Value)) : Ev 380 U.W [e] 1 M K [] [⟨.type "StopIteration", dd, .fields vs, sl⟩] 20 1 (J5 U x S txt p tp st ln tl tok N tk).c (J5 U x S txt p tp st ln tl tok N tk).κ (Cb (J5 U x S txt p tp st ln tl tok N tk).t (.error (.ref e)))
  [] (.fin .brk) [] 0 0 [] := by
 kernel_rfl
end
noncomputable def Dl (ds : List W2) : List Nat := ds.flatMap W2.enc
noncomputable def Di (ln : Int) : List W2 -> Int
 | [] => ln
 | d :: ds => Di (B3 ln d.sep) ds
section
variable {U : Fl} {x : SX} {txt : Str} {S : Nat}
theorem Aay (h2 : 2 <= txt.length) (hfit : txt.length <= sizeLine) : ∀ (ds : List W2) (pre : List Nat) (p : Int) (tp ts : Nat) (ln : Int) (tl tt : Nat) (xs : List Value) (n : Nat) (A : Around) (s : Shared) (R : Result -> Shared -> Prop) (F : List (Nat × Obj)) (es : List Env),
  (∀ d ∈ ds, d.ok) -> txt.cps.toList = pre ++ Dl ds -> p = pre.length -> A.handled = none -> A.depth <= 370 -> A.frames = some es -> I8 F es -> xs.length + ds.length <= 1000 ->
  At U.W s (LZ x txt p tp (.str ⟨#[32]⟩ (ts + 1573)) ln tl (.str ⟨#[]⟩ tt) ++ (F ++ [(S, A9 xs n)])) ->
  (∀ s' vs n' sls, PyProof.Rows.StrsAre vs (ds.map fun d => ⟨⟨d.val⟩⟩) -> At U.W s' (Dy sls F ++ [(S, A9 (xs ++ vs) n')]) -> Keeps (S :: (x.addrs ++ F.map (·.1))) s s' -> R (.ok (.ret .none)) s') ->
  codeAny (Ak U.W) A (elC S x.inst) R s
 | [], pre, p, tp, ts, ln, tl, tt, xs, n, A, s, R, F, es, hd, ht, hp, hA, hD, hfr, hF, hl, H, cont => by
  refine Fk (b := Builtin.«list.extend.loop») _root_.PySem.F.entry_extend_loop ?_
  show wpOwn _ _ _ (pyNext (.ref x.inst) >>= fun o => match o with | none => ret .none | some v => listUpdate (.ref S) (·.push v) >>= fun _ => again (elC S x.inst)) _ _ s
  refine wpOwn_bind (Jd (Qt ?_))
  obtain ⟨N, tk, hN, hT⟩ := H.NT
  refine F9 (W := [0, 1, 2, 3, 4, 5].zip (x.objs txt p tp (.str ⟨#[32]⟩ (ts + 1573)) ln tl (.str ⟨#[]⟩ tt))) (Ab5 U x S txt p tp _ ln tl _ N tk) hA (dl hD) H.left rfl rfl rfl hN hT rfl rfl (by decide) (by decide) trivial ?_
  intro s1 H1 K1 _ _
  have H1a := At.next H (L' := LZ x txt p tp (.str ⟨#[32]⟩ (ts + 1573)) ln tl (.str ⟨#[]⟩ tt)) H1 K1 (fun q hq => .inl (List.mem_map_of_mem (f := (·.1)) hq))
  intro A' hA' hD' _ hfr'
  have hlen : p = txt.length := by
   have : txt.cps.toList.length = pre.length := by rw [ht]; simp [Dl]
   have h3 : txt.length = txt.cps.toList.length := by show txt.cps.size = _; simp
   lia
  have H1b := H1a.perm (L' := [(S, A9 xs n)] ++ (LZ x txt p tp (.str ⟨#[32]⟩ (ts + 1573)) ln tl (.str ⟨#[]⟩ tt) ++ F)) (by
   rw [<- List.append_assoc]
   exact List.perm_append_comm (l₁ := [_]))
  refine Aee hfit hlen hA' (Dv hD' hD) ((hfr' es hfr).trans (congrArg (fun l => some (l ++ es)) (Sm U x S txt p tp _ ln tl _ N tk))) hF H1b.drop ?_
  intro s2 tt2 e vs dd sl sls H2 K2 he
  have H2a := At.frame (L := LZ x txt p tp (.str ⟨#[32]⟩ (ts + 1573)) ln tl (.str ⟨#[]⟩ tt) ++ F) (M := [(S, A9 xs n)]) (H1b.perm List.perm_append_comm) H2 (K2.mono (fun y hy => by rw [List.map_append]; exact hy)) (fun q hq => by
   rcases List.mem_cons.mp hq with rfl | hq
   ·exact .inr he
   ·left
    rw [List.map_append]
    rcases List.mem_append.mp hq with hq | hq
    ·exact List.mem_append_left _ (List.mem_map_of_mem (f := (·.1)) hq)
    ·refine List.mem_append_right _ ?_
     rw [<- M7 sls F]
     exact List.mem_map_of_mem (f := (·.1)) hq)
  obtain ⟨N2, tk2, hN2, hT2⟩ := H2a.NT
  have H2b : At U.W s2 ([(e, (⟨.type "StopIteration", dd, .fields vs, sl⟩ : Obj))] ++ ((LZ x txt p tp .none ln tl (.str ⟨#[]⟩ tt2) ++ Dy sls F) ++ [(S, A9 xs n)])) := H2a
  refine C5 (W := []) (Xm U x S txt p tp _ ln tl _ N tk N2 tk2 e dd vs sl) hA (dl hD) H2b.left rfl rfl rfl hN2 hT2 rfl rfl List.nodup_nil (by intro j hj; cases hj) trivial ?_
  intro s3 H3 K3 _ _
  have H3a : At U.W s3 _ := At.next (L := [(e, (⟨.type "StopIteration", dd, .fields vs, sl⟩ : Obj))]) (L' := []) H2b H3 K3 (by intro q hq; cases hq)
  refine An ?_
  refine cont s3 [] n sls .nil (by
   rw [List.append_nil]
   exact H3a.sub (fun q hq => by
    rcases List.mem_append.mp hq with hq | hq
    ·exact List.mem_append_right [] (List.mem_append_left _ (List.mem_append_right _ hq))
    ·exact List.mem_append_right [] (List.mem_append_right _ hq)) (by
    have nd := H3a.nd
    rw [show (([] : List (Nat × Obj)) ++ ((LZ x txt p tp .none ln tl (.str ⟨#[]⟩ tt2) ++ Dy sls F) ++ [(S, A9 xs n)])) = LZ x txt p tp .none ln tl (.str ⟨#[]⟩ tt2) ++ (Dy sls F ++ [(S, A9 xs n)]) from by rw [List.append_assoc]; rfl, List.map_append] at nd
    exact (List.nodup_append.mp nd).2.1)) ?_
  have kk : Keeps ([e] ++ (S :: (x.addrs ++ F.map (·.1)))) s1 s3 := (K2.mono (fun y hy => .tail _ (.tail _ hy))).trans (K3.mono (fun y hy => List.mem_append_left _ hy))
  refine Keeps.trans_new (Y := [e]) (K1.mono (fun y hy => .tail _ (List.mem_append_left _ hy))) kk ?_
  intro y hy
  have k1 := K1.size
  have : y = e := by simpa using hy
  lia
 | d :: ds, pre, p, tp, ts, ln, tl, tt, xs, n, A, s, R, F, es, hd, ht, hp, hA, hD, hfr, hF, hl, H, cont => by
  refine Fk (b := Builtin.«list.extend.loop») _root_.PySem.F.entry_extend_loop ?_
  show wpOwn _ _ _ (pyNext (.ref x.inst) >>= fun o => match o with | none => ret .none | some v => listUpdate (.ref S) (·.push v) >>= fun _ => again (elC S x.inst)) _ _ s
  refine wpOwn_bind (Jd (Qt ?_))
  obtain ⟨N, tk, hN, hT⟩ := H.NT
  refine Ah (Ab5 U x S txt p tp _ ln tl _ N tk) hA (dl hD) H.left rfl rfl rfl rfl hN hT trivial ?_
  intro s1 H1 K1 _ _
  intro A' hA' hD'
  have ht' : txt.cps.toList = pre ++ (d.enc ++ Dl ds) := by rw [ht]; rfl
  refine Ago h2 hfit d (hd _ (.head _)) ht' hp hA' (Dv hD' hD) H1 ?_
  intro s2 tp2 ts2 tl2 tt2 tv H2 K2
  have H2a := At.next H H2 (K1.trans K2) (fun q hq => .inl (show q.1 ∈ x.addrs from List.mem_map_of_mem (f := (·.1)) hq))
  obtain ⟨N2, tk2, hN2, hT2⟩ := H2a.NT
  refine C5 (W := []) (Y5 U x S txt p tp _ ln tl _ N tk N2 tk2 _ tv) hA (dl hD) (L := []) H2.nil rfl rfl rfl hN2 hT2 rfl rfl List.nodup_nil (by intro j hj; cases hj) trivial ?_
  intro s3 H3 K3 _ _
  have H3a : At U.W s3 _ := At.next (L := []) (L' := []) H2a H3 K3 (by intro q hq; cases hq)
  have H3b := H3a.perm (L' := (S, A9 xs n) :: (LZ x txt (p + d.enc.length) tp2 (.str ⟨#[32]⟩ (ts2 + 1573)) (B3 ln d.sep) tl2 (.str ⟨#[]⟩ tt2) ++ F)) (by
   show List.Perm _ (LZ x txt (p + d.enc.length) tp2 (.str ⟨#[32]⟩ (ts2 + 1573)) (B3 ln d.sep) tl2 (.str ⟨#[]⟩ tt2) ++ (F ++ [(S, A9 xs n)]))
   rw [<- List.append_assoc]
   exact List.perm_append_comm (l₁ := [_]))
  show wpOwn _ _ _ (updateSeq S (·.push (.str ⟨⟨d.val⟩⟩ tv)) >>= fun _ => again (elC S x.inst)) _ _ s3
  obtain ⟨H4, K4⟩ := H3b.upd (f := Obj.mapSeq (·.push (.str ⟨⟨d.val⟩⟩ tv))) rfl
  simp only [List.length_cons] at hl
  have hsz : sizeLine = 16777216 := rfl
  refine wpOwn_bind (Cr (wpAny_updateSeq (H3b.own _ (.head _)) rfl (An ⟨plainId_quiet _root_.PySem.F.plain_extend_loop _, ?_⟩) (by show xs.length <= _; lia) (by show (Array.push _ _).size <= _; rw [Array.size_push]; show xs.length + 1 <= _; lia)))
  obtain ⟨n4, e4⟩ : ∃ n4, Obj.mapSeq (·.push (.str ⟨⟨d.val⟩⟩ tv)) (A9 xs n) = A9 (xs ++ [.str ⟨⟨d.val⟩⟩ tv]) n4 := by
   refine ⟨if (Array.push (Array.mk xs) (Value.str ⟨⟨d.val⟩⟩ tv)).size == (Array.mk xs).size then n else n + 1, ?_⟩
   show (⟨_, _, _, _⟩ : Obj) = ⟨_, _, _, _⟩
   have : Array.push (Array.mk xs) (Value.str ⟨⟨d.val⟩⟩ tv) = Array.mk (xs ++ [Value.str ⟨⟨d.val⟩⟩ tv]) := by simp
   rw [<- this]
  rw [e4] at H4
  have H5 := H4.perm (L' := LZ x txt (p + d.enc.length) tp2 (.str ⟨#[32]⟩ (ts2 + 1573)) (B3 ln d.sep) tl2 (.str ⟨#[]⟩ tt2) ++ (F ++ [(S, A9 (xs ++ [.str ⟨⟨d.val⟩⟩ tv]) n4)])) (by
   rw [<- List.append_assoc]
   exact List.perm_append_comm (l₂ := [_]))
  refine Aay h2 hfit ds (pre ++ d.enc) _ _ _ _ _ _ (xs ++ [.str ⟨⟨d.val⟩⟩ tv]) n4 A _ R F es (fun d' h' => hd d' (.tail _ h')) (by rw [ht', List.append_assoc]) (by simp; lia) hA hD hfr hF (by simp; lia) H5 ?_
  intro s' vs n' sls hvs H' K'
  refine cont s' (.str ⟨⟨d.val⟩⟩ tv :: vs) n' sls (.cons _ _ hvs) (by rw [List.append_assoc] at H'; exact H') ?_
  refine (K1.mono ?_).trans ((K2.mono ?_).trans ((K3.mono ?_).trans ((K4.mono ?_).trans K')))
  ·intro y hy; exact .tail _ (List.mem_append_left _ hy)
  ·intro y hy; exact .tail _ (List.mem_append_left _ hy)
  ·intro y hy; cases hy
  ·intro y hy; simp at hy; simp [hy]
end
end Mine
end
namespace Mine
noncomputable def D6 : Option Nat -> List Nat
 | none => []
 | some sp => [sp]
noncomputable def Md (o : Option Nat) : Prop := ∀ sp, o = some sp -> sp ∈ [10, 9, 13, 32]
noncomputable def lnO (o : Option Nat) (ln : Int) : Int := match o with
 | none => ln
 | some sp => B3 ln sp
noncomputable def W2.wd (d : W2) : Wd := match d.it with
 | [] => .quo []
 | (e, v) :: items => if d.q then .quo ((e, v) :: items) else .bare e v items d.sep
noncomputable def W2.left (d : W2) : Option Nat := if d.q then some d.sep else none
theorem W2.wd_enc {d : W2} (h : d.ok) : d.enc = d.wd.enc ++ D6 d.left := by
 obtain ⟨q, it, sep⟩ := d
 cases it with
 | nil => exact (h.ne rfl).elim
 | cons i items =>
  obtain ⟨e, v⟩ := i
  cases q
  ·simp [W2.enc, W2.wd, W2.left, Wd.enc, D6]
  ·simp [W2.enc, W2.wd, W2.left, Wd.enc, D6]
theorem W2.wd_val {d : W2} (h : d.ok) : d.wd.val = d.val := by
 obtain ⟨q, it, sep⟩ := d
 cases it with
 | nil => exact (h.ne rfl).elim
 | cons i items =>
  obtain ⟨e, v⟩ := i
  cases q <;> simp [W2.val, W2.wd, Wd.val, Cm]
theorem W2.wd_ok {d : W2} (h : d.ok) : d.wd.ok := by
 obtain ⟨q, it, sep⟩ := d
 cases it with
 | nil => exact (h.ne rfl).elim
 | cons i items =>
  obtain ⟨e, v⟩ := i
  cases q with
  | false =>
   have hb := h.bare rfl
   have h0 := hb _ (.head _)
   have hf := h.fit
   simp only [List.length_cons] at hf
   exact ⟨h0.1, fun he => (h0.2.2.2 he).2.2.2.1, fun i hi => (hb i (.tail _ hi)).1, h.sep, by lia⟩
  | true =>
   have hb := h.quo rfl
   exact ⟨fun i hi => (hb i hi).1, h.fit⟩
theorem W2.wd_ln {d : W2} (h : d.ok) (l : Int) : lnO d.left (d.wd.ln l) = B3 l d.sep := by
 obtain ⟨q, it, sep⟩ := d
 cases it with
 | nil => exact (h.ne rfl).elim
 | cons i items =>
  obtain ⟨e, v⟩ := i
  cases q <;> rfl
theorem W2.left_ok {d : W2} (h : d.ok) : Md d.left := by
 obtain ⟨q, it, sep⟩ := d
 intro sp e
 cases q with
 | false => cases e
 | true => cases e; exact h.sep
section
variable {U : Fl} {x : NL} {txt : Str}
theorem Abs (h2 : 2 <= txt.length) (o : Option Nat) (ho : Md o) (d : W2) (hd : d.ok) {pre rest : List Nat} {p : Int} {tp : Nat} {ln : Int} {tl : Nat}
  (ht : txt.cps.toList = pre ++ (D6 o ++ (d.enc ++ rest))) (hp : p = pre.length) (hA : A.handled = none) (hD : A.depth <= 390) (H : At U.W s (LX U.W x txt p tp ln tl))
  (cont : ∀ s' tp' ln' tl' tt', lnO d.left ln' = B3 (lnO o ln) d.sep -> At U.W s' (LX U.W x txt (pre ++ D6 o ++ d.wd.enc).length tp' ln' tl') -> Keeps x.addrs s s' -> R (.ok (.ret (.str ⟨⟨d.val⟩⟩ tt'))) s') :
  codeAny (Ak U.W) A (.call (.ref 72) ⟨[.ref x.inst], []⟩) R s := by
 have fin : ∀ (tok' : Str), tok'.cps.toList = d.wd.val -> tok' = ⟨⟨d.val⟩⟩ := by
  intro tok' e
  obtain ⟨⟨c⟩⟩ := tok'
  have e : c = d.wd.val := e
  rw [e, W2.wd_val hd]
 cases o with
 | none =>
  have ht' : txt.cps.toList = pre ++ (d.wd.enc ++ (D6 d.left ++ rest)) := by
   rw [ht, W2.wd_enc hd]
   simp [D6]
  refine Ue h2 d.wd (W2.wd_ok hd) ht' hp hA hD H ?_
  intro s' tp' tl' tok' tt' e H' K'
  rw [fin tok' e]
  refine cont s' tp' (d.wd.ln ln) tl' tt' (W2.wd_ln hd ln) ?_ K'
  have e2 : ((pre ++ D6 none ++ d.wd.enc).length : Int) = p + d.wd.enc.length := by simp [D6]; lia
  rw [e2]; exact H'
 | some sp =>
  have ht' : txt.cps.toList = pre ++ (sp :: d.wd.enc ++ (D6 d.left ++ rest)) := by
   rw [ht, W2.wd_enc hd]
   simp [D6]
  refine Nm h2 sp (ho sp rfl) d.wd (W2.wd_ok hd) ht' hp hA hD H ?_
  intro s' tp' tl' tok' tt' e H' K'
  rw [fin tok' e]
  refine cont s' tp' _ tl' tt' (W2.wd_ln hd _) ?_ K'
  have e2 : ((pre ++ D6 (some sp) ++ d.wd.enc).length : Int) = p + 1 + d.wd.enc.length := by simp [D6]; lia
  rw [e2]; exact H'
theorem Adj (h2 : 2 <= txt.length) (o : Option Nat) (ho : Md o) {pre : List Nat} {p : Int} {tp : Nat} {ln : Int} {tl : Nat}
  (ht : txt.cps.toList = pre ++ D6 o) (hp : p = pre.length) (hA : A.handled = none) (hD : A.depth <= 390) (H : At U.W s (LX U.W x txt p tp ln tl))
  (cont : ∀ s' p' tp' tl' tt', At U.W s' (LX U.W x txt p' tp' (lnO o ln) tl') -> Keeps x.addrs s s' -> R (.ok (.ret (.str ⟨#[]⟩ tt'))) s') :
  codeAny (Ak U.W) A (.call (.ref 72) ⟨[.ref x.inst], []⟩) R s := by
 cases o with
 | none =>
  have hlen : txt.length = pre.length := by
   have : txt.cps.toList.length = pre.length := by rw [ht]; simp [D6]
   show txt.cps.size = _; simpa using this
  exact Xf (by lia) (by lia) hA hD H (fun s' tp' tl' tt' H' K' => cont s' _ tp' tl' tt' H' K')
 | some sp => exact Ot h2 sp (ho sp rfl) ht hp hA hD H (fun s' tp' tl' tt' H' K' => cont s' _ tp' tl' tt' H' K')
end
section
variable {U : Fl} {x : NL} {L TL : Nat} {a : Nat -> Nat} {txt : Str}
noncomputable abbrev LW (w : World) (x : NL) (L TL : Nat) (a : Nat -> Nat) (txt : Str) (p : Int) (tp : Nat) (ln : Int) (tl : Nat) (tok : Value) (xs : List Value) (n : Nat) : List (Nat × Obj) :=
 [(L, Jr w.params x TL a tok), (TL, A9 xs n)] ++ LX w x txt p tp ln tl
theorem Tj {v : List Nat} (h : v ≠ []) : Pc ⟨⟨v⟩⟩ ⟨#[]⟩ = true := by
 cases v with
 | nil => exact (h rfl).elim
 | cons a l => rfl
theorem V6 {d : W2} (h : d.ok) : d.val ≠ [] := by
 obtain ⟨q, it, sep⟩ := d
 cases it with
 | nil => exact (h.ne rfl).elim
 | cons i items => exact List.cons_ne_nil _ _
theorem Aio (h2 : 2 <= txt.length) (ds : List W2) : ∀ (o : Option Nat) (pre : List Nat) (p : Int) (tp : Nat) (ln : Int) (tl : Nat) (cur : List Nat) (tc : Nat) (xs : List Value) (n : Nat) (A : Around) (s : Shared) (R : Result -> Shared -> Prop),
  (∀ d ∈ ds, d.ok) -> Md o -> cur ≠ [] -> txt.cps.toList = pre ++ (D6 o ++ Dl ds) -> p = pre.length -> xs.length + ds.length <= 2000 -> A.handled = none -> A.depth <= 340 ->
  At U.W s (LW U.W x L TL a txt p tp ln tl (.str ⟨⟨cur⟩⟩ tc) xs n) ->
  (∀ s' p' tp' tl' tc' vs n', PyProof.Rows.StrsAre vs (⟨⟨cur⟩⟩ :: ds.map fun d => ⟨⟨d.val⟩⟩) -> At U.W s' (LW U.W x L TL a txt p' tp' (Di (lnO o ln) ds) tl' (.str ⟨#[]⟩ tc') (xs ++ vs) n') -> Keeps (L :: TL :: x.addrs) s s' -> R (.ok .next) s') ->
  codeAny (Ak U.W) A (Fp U.P x L) R s := by
 induction ds with
 | nil =>
  intro o pre p tp ln tl cur tc xs n A s R hd ho hc ht hp hl hA hD H cont
  obtain ⟨N, tk, hN, hT⟩ := H.NT
  refine Aa (Ah (Aax U x L TL a txt p tp ln tl ⟨⟨cur⟩⟩ tc xs n N tk) hA (dl hD) H rfl rfl rfl rfl hN hT ⟨Fv (by simp only [List.length_nil] at hl; lia), Tj hc, trivial⟩ ?_)
  intro s1 H1 K1 _ _ A' hA' hD'
  have H1a : At U.W s1 ([(L, Jr U.P x TL a (.str ⟨⟨cur⟩⟩ tc)), (TL, A9 (xs ++ [.str ⟨⟨cur⟩⟩ tc]) (n + 1))] ++ LX U.W x txt p tp ln tl) := H1
  refine Adj h2 o ho (by rw [ht]; simp [Dl]) hp hA' (Dv hD' hD) H1a.drop ?_
  intro s2 p2 tp2 tl2 tt2 H2 K2
  have H2a := H1a.swap H2 K2 rfl
  obtain ⟨N2, tk2, hN2, hT2⟩ := H2a.NT
  refine Ah (Ab8 U x L TL a txt p tp ln tl ⟨⟨cur⟩⟩ tc xs n N tk N2 tk2 p2 tp2 (lnO o ln) tl2 ⟨#[]⟩ tt2) hA (dl hD) H2a rfl rfl rfl rfl hN2 hT2 trivial ?_
  intro s3 H3 K3 _ _
  refine ⟨rfl, ?_⟩
  obtain ⟨N3, tk3, hN3, hT3⟩ := H3.NT
  refine Aa (Ah (Ag2 U x L TL a txt p2 tp2 (lnO o ln) tl2 tt2 (xs ++ [.str ⟨⟨cur⟩⟩ tc]) (n + 1) N3 tk3) hA (dl hD) H3 rfl rfl rfl rfl hN3 hT3 trivial ?_)
  intro s4 H4 K4 _ _
  exact cont s4 p2 tp2 tl2 tt2 [.str ⟨⟨cur⟩⟩ tc] (n + 1) (.cons _ _ .nil) H4 (K1.trans ((K2.mono (fun y hy => .tail _ (.tail _ hy))).trans (K3.trans K4)))
 | cons d ds ih =>
  intro o pre p tp ln tl cur tc xs n A s R hd ho hc ht hp hl hA hD H cont
  obtain ⟨N, tk, hN, hT⟩ := H.NT
  simp only [List.length_cons] at hl
  refine Aa (Ah (Aax U x L TL a txt p tp ln tl ⟨⟨cur⟩⟩ tc xs n N tk) hA (dl hD) H rfl rfl rfl rfl hN hT ⟨Fv (by lia), Tj hc, trivial⟩ ?_)
  intro s1 H1 K1 _ _ A' hA' hD'
  have H1a : At U.W s1 ([(L, Jr U.P x TL a (.str ⟨⟨cur⟩⟩ tc)), (TL, A9 (xs ++ [.str ⟨⟨cur⟩⟩ tc]) (n + 1))] ++ LX U.W x txt p tp ln tl) := H1
  have hdd := hd _ (.head _)
  refine Abs h2 o ho d hdd (rest := Dl ds) (by rw [ht]; simp [Dl]) hp hA' (Dv hD' hD) H1a.drop ?_
  intro s2 tp2 ln2 tl2 tt2 e2 H2 K2
  have H2a := H1a.swap H2 K2 rfl
  obtain ⟨N2, tk2, hN2, hT2⟩ := H2a.NT
  refine Ah (Ab8 U x L TL a txt p tp ln tl ⟨⟨cur⟩⟩ tc xs n N tk N2 tk2 _ tp2 ln2 tl2 ⟨⟨d.val⟩⟩ tt2) hA (dl hD) H2a rfl rfl rfl rfl hN2 hT2 trivial ?_
  intro s3 H3 K3 _ _
  refine ⟨rfl, ih d.left (pre ++ D6 o ++ d.wd.enc) _ tp2 ln2 tl2 d.val tt2 (xs ++ [Value.str (⟨⟨cur⟩⟩ : Str) tc]) (n + 1) A s3 R (fun d' h' => hd d' (.tail _ h')) (W2.left_ok hdd) (V6 hdd) (by rw [ht]; simp [Dl, W2.wd_enc hdd]) rfl (by simp; lia) hA hD H3 ?_⟩
  intro s4 p4 tp4 tl4 tc4 vs n4 hvs H4 K4
  rw [e2] at H4
  exact cont s4 p4 tp4 tl4 tc4 (.str ⟨⟨cur⟩⟩ tc :: vs) n4 (.cons _ _ hvs) (by rw [List.append_assoc] at H4; exact H4) (K1.trans ((K2.mono (fun y hy => .tail _ (.tail _ hy))).trans (K3.trans K4)))
end
noncomputable def Ek (xs : List Value) : Obj := ⟨.type "tuple", none, .seq (Array.mk xs) 0, #[]⟩
section
variable {U : Fl} {txt : Str}
theorem At.add {w : World} {L : List (Nat × Obj)} {a : Nat} {o : Obj} (H : At w s L) (e : s.heap.get? a = some o) (hn : a ∉ L.map (·.1)) (hi : 884 <= a \/ a = 105 \/ a = 847) : At w s ((a, o) :: L) :=
 ⟨H.gens, H.top, H.size, H.toks, fun p hp => by
  rcases List.mem_cons.mp hp with rfl | hp
  ·exact e
  ·exact H.own p hp, List.nodup_cons.mpr ⟨hn, H.nd⟩, fun p hp => by
  rcases List.mem_cons.mp hp with rfl | hp
  ·exact hi
  ·exact H.hi p hp⟩
noncomputable def Tb7 (o : Obj) : Prop := ∃ more, o = ⟨.none, none, .fields more, #[]⟩
theorem Sq (h2 : 2 <= txt.length) (ds : List W2) (hok : ∀ d ∈ ds, d.ok) (hne : ds ≠ []) (ht : txt.cps.toList = Dl ds) (hl : ds.length <= 1000) {tt : Nat} {F : List (Nat × Obj)}
  (hA : A.handled = none) (hD : A.depth <= 330) (H : At U.W s ([(847, B9)] ++ F))
  (cont : ∀ s' T TL vs n tl o7, PyProof.Rows.StrsAre vs (ds.map fun d => ⟨⟨d.val⟩⟩) -> Tb7 o7 -> At U.W s' ([(T, Ek [.ref TL, .int (Di 1 ds) tl]), (TL, A9 vs n), (847, o7)] ++ F) -> Keeps [847] s s' -> s.heap.objs.size <= T /\ s.heap.objs.size <= TL -> R (.ok (.ret (.ref T))) s') :
  codeAny (Ak U.W) A (.call (.ref 852) ⟨[.str txt tt], []⟩) R s := by
 obtain ⟨N, tk, hN, hT⟩ := H.NT
 let x := Px U txt tt N tk
 let P := U.P
 match ds with
 | [] => exact (hne rfl).elim
 | d :: ds =>
  have hdd := hok _ (.head _)
  refine Aa (C5 (W := [1, 25, 22, 21, 19, 20, 12, 11, 2, 3, 4, 24, 0].zip ((A0 (Ls P x (N+884+24) (tkA tk 0)) 4 :: A9 [] 0 :: x.objs P txt 0 (tk+1573) 1 (tk+1593)) ++ ([Mw N] : List Obj))) (Ahu U txt tt N tk) hA hD H.left rfl rfl rfl hN hT rfl rfl (by decide) (by decide) trivial ?_)
  intro s1 H1 K1 _ hSz1
  have hnew : ∀ y ∈ (N+884) :: (N+884+24) :: x.addrs, s.heap.objs.size <= y := fun y hy => Nat.le_trans (Nat.le_of_eq hN) (Dd [0, 24, 21, 20, 18, 19, 11, 10, 1, 2, 3, 23] hy)
  intro A' hA' hD'
  have H1z : At U.W s1 (([(N+884, A0 (Ls P x (N+884+24) (tkA tk 0)) 4), (N+884+24, A9 [] 0)] ++ LX U.W x txt 0 (tk+1573) 1 (tk+1593)) ++ [(847, Mw N)]) := H1
  have g7 : s1.heap.get? 847 = some (Mw N) := H1z.own (847, Mw N) (List.mem_append_right _ (.head _))
  have H1a := H1z.left
  refine Abs h2 none (by intro sp e; cases e) d hdd (pre := []) (rest := Dl ds) (by rw [ht]; simp [Dl, D6]) rfl hA' (Dv hD' hD) H1a.drop ?_
  intro s2 tp2 ln2 tl2 tt2 e2 H2 K2
  have H2a := H1a.swap H2 K2 rfl
  obtain ⟨N2, tk2, hN2, hT2⟩ := H2a.NT
  refine Ah (Ah1 U txt tt N tk N2 tk2 _ tp2 ln2 tl2 ⟨⟨d.val⟩⟩ tt2) hA hD H2a rfl rfl rfl rfl hN2 hT2 trivial ?_
  intro s3 H3 K3 _ _
  intro A3 hA3 hD3
  simp only [List.length_cons] at hl
  refine Aio h2 ds d.left ([] ++ D6 none ++ d.wd.enc) _ tp2 ln2 tl2 d.val tt2 [] 0 A3 s3 _ (fun d' h' => hok d' (.tail _ h')) (W2.left_ok hdd) (V6 hdd) (by rw [ht]; simp [Dl, W2.wd_enc hdd, D6]) rfl (by simp; lia) hA3 (Dv hD3 hD) H3 ?_
  intro s4 p4 tp4 tl4 tc4 vs n4 hvs H4 K4
  rw [e2] at H4
  obtain ⟨N4, tk4, hN4, hT4⟩ := H4.NT
  refine C5 (W := [1, 12].zip [A9 vs n4, Ek [.ref (N+884+24), .int (Di (B3 1 d.sep) ds) tl4]]) (Ah4 U txt tt N tk N2 tk2 N4 tk4 _ p4 tp2 tp4 ln2 (Di (B3 1 d.sep) ds) tl2 tl4 ⟨⟨d.val⟩⟩ tt2 (.str ⟨#[]⟩ tc4) vs n4 (tk2 + 1573)) hA hD H4 rfl rfl rfl hN4 hT4 rfl rfl (by decide) (by decide) trivial ?_
  intro s5 H5 K5 _ hSz5
  have kk : Keeps (((N+884) :: (N+884+24) :: x.addrs) ++ [847]) s1 s5 := by
   refine (K2.mono ?_).trans ((K3.mono ?_).trans ((K4.mono ?_).trans (K5.mono ?_)))
   ·intro y hy; exact List.mem_append_left _ (.tail _ (.tail _ hy))
   all_goals (intro y hy; exact List.mem_append_left _ hy)
  have kk0 : Keeps ((N+884) :: (N+884+24) :: x.addrs) s1 s5 := by
   refine (K2.mono ?_).trans ((K3.mono ?_).trans ((K4.mono ?_).trans (K5.mono ?_)))
   ·intro y hy; exact .tail _ (.tail _ hy)
   all_goals (intro y hy; exact hy)
  have g75 := kk0.keep _ _ g7 (fun hm => by
   have := hnew _ hm
   have := H.size
   lia)
  have kz := Keeps.trans_new (Y := (N+884) :: (N+884+24) :: x.addrs) K1 kk hnew
  have k2 := K2.size
  have k3 := K3.size
  have k4 := K4.size
  have H5a : At U.W s5 ([(N+884+24, A9 vs n4), (N4+884, Ek [.ref (N+884+24), .int (Di (B3 1 d.sep) ds) tl4])] ++ F) := At.next H H5 kz (fun q hq => by
   right
   rcases List.mem_cons.mp hq with rfl | hq
   ·exact hnew _ (by simp)
   ·have : q = (N4+884, Ek [.ref (N+884+24), .int (Di (B3 1 d.sep) ds) tl4]) := by simpa [Eu] using hq
    subst this
    show s.heap.objs.size <= N4 + 884
    lia)
  have H5b : At U.W s5 ((847, Mw N) :: ([(N+884+24, A9 vs n4), (N4+884, Ek [.ref (N+884+24), .int (Di (B3 1 d.sep) ds) tl4])] ++ F)) := H5a.add g75 (fun hm => by
   rcases List.mem_cons.mp hm with h | hm
   ·have h : 847 = N+884+24 := h
    lia
   rcases List.mem_cons.mp hm with h | hm
   ·have h : 847 = N4+884 := h
    lia
   exact (List.nodup_cons.mp (show (847 :: F.map (·.1)).Nodup from H.nd)).1 hm) (.inr (.inr rfl))
  refine cont s5 (N4+884) (N+884+24) vs n4 tl4 (Mw N) hvs ⟨_, rfl⟩ (H5b.perm ?_) kz ⟨by lia, by lia⟩
  exact (List.perm_append_comm (l₁ := [(N4+884, Ek [.ref (N+884+24), .int (Di (B3 1 d.sep) ds) tl4]), (N+884+24, A9 vs n4), (847, Mw N)]) (l₂ := [])).append_right F |>.trans ((List.reverse_perm [(847, Mw N), (N+884+24, A9 vs n4), (N4+884, Ek [.ref (N+884+24), .int (Di (B3 1 d.sep) ds) tl4])]).append_right F)
end
end Mine
section
open PySem.Builtin.List
namespace Mine
theorem Ag {w : World} {a tok sz : Nat} {xs : List Value} {v : Value} {n : Nat} {i : Int} {u : Nat} (h0 : 0 <= i) (hf : i < 2 ^ 63) (hx : xs[i.toNat]? = some v) :
  Ac pw w (.call (.builtin "list.__getitem__") ⟨[.ref a, .int i u], []⟩) tok sz [(a, A9 xs n)] [] [] v 0 := by
 intro A s R hA hD hg ht hn hrd hR
 have hl := hrd.1
 dsimp only at hl
 have hT : s.TypeIs (.ref a) "list" := ⟨_, hl, rfl⟩
 refine codeAny_call_builtin _root_.PySem.slot_list_getitem.plain _root_.PySem.entry_list_getitem (_root_.PySem.slot_list_getitem.check _ _ _ _ _ _ _ _ hT (_root_.PySem.args_list_getitem _ _) ?_)
 show wpAny _ _ (listSubscript? (.int i u) >>= _) _ _ s
 refine wpAny_bind (wpAny_listSubscript_int (fitsIndex_of h0 hf) ?_)
 obtain ⟨j, rfl⟩ := Int.eq_ofNat_of_zero_le h0
 have hx' : (Array.mk xs)[j]? = some v := by simpa using hx
 show wpAny _ _ ((seqItemAt a j >>= fun r => pure (r.map (j, ·))) >>= _) _ _ s
 refine wpAny_bind (wpAny_bind (wpAny_seqItemAt hl rfl (wpAny_pure ?_)))
 rw [hx']
 subst ht
 first
  | exact wpAny_bind (wpAny_pure (wpAny_pure hR))
  | exact wpAny_pure hR
theorem Akl (xs : List Value) : slicePick (Array.mk xs) none (some 3) none = Array.mk (xs.take 3) := by
 by_cases h : 3 <= xs.length
 ·exact slicePick_upto (Array.mk xs) 3 h
 ·match xs with
  | [] => rfl
  | [_] => kernel_rfl
  | [_, _] => kernel_rfl
  | _ :: _ :: _ :: _ => exact absurd (by simp) h
noncomputable def sl3 (t : Nat) : Obj := ⟨.type "slice", none, .fields #[.none, .int 3 t, .none], #[]⟩
theorem Qf {w : World} {a b tok sz : Nat} {xs : List Value} {n t : Nat} (hx : xs.length <= 4000) :
  Ac pw w (.call (.builtin "list.__getitem__") ⟨[.ref a, .ref b], []⟩) tok sz [(a, A9 xs n), (b, sl3 t)] [] [A9 (xs.take 3) 0] (.ref sz) 0 := by
 intro A s R hA hD hg ht hn hrd hR
 have hl := hrd.1
 have hb := hrd.2.1
 dsimp only at hl hb
 have hT : s.TypeIs (.ref a) "list" := ⟨_, hl, rfl⟩
 have hTs : s.TypeIs (.ref b) "slice" := ⟨_, hb, rfl⟩
 have hsz : sizeLine = 16777216 := rfl
 refine codeAny_call_builtin _root_.PySem.slot_list_getitem.plain _root_.PySem.entry_list_getitem (_root_.PySem.slot_list_getitem.check _ _ _ _ _ _ _ _ hT (_root_.PySem.args_list_getitem _ _) ?_)
 show wpAny _ _ (listSubscript? (.ref b) >>= _) _ _ s
 refine wpAny_bind ?_
 unfold listSubscript?
 refine wpAny_bind (wpAny_specialOf hTs slice_no_index ?_)
 simp only [Option.isNone_none, if_true]
 refine wpAny_pure ?_
 show wpAny _ _ (typeOf (.ref b) >>= _) _ _ s
 refine wpAny_bind (wpAny_typeOf hTs ?_)
 rw [if_neg (by decide), listSliceParts_eq]
 refine wpAny_bind (wpAny_bind (wpAny_field hb rfl (x := .none) rfl (wpAny_bind (wpAny_listPart .none ?_))))
 rw [if_neg (show ¬ ((rawPart none == rawInt 0) = true) from Bool.false_ne_true)]
 refine wpAny_bind (wpAny_field hb rfl (x := .none) rfl (wpAny_bind (wpAny_listPart .none ?_)))
 refine wpAny_bind (wpAny_field hb rfl (x := .int 3 t) rfl (wpAny_bind (wpAny_listPart (.int 3 t) (wpAny_pure ?_))))
 refine wpAny_bind (m := listItems (.ref a)) ?_
 unfold listItems
 refine wpAny_bind (wpAny_seqItems hl rfl (wpAny_pure ?_))
 refine wpAny_bind (wpAny_of_eq (sliceIndices_raw none (some 3) none (Array.mk xs).size (by decide)) ?_)
 subst ht hn
 refine wpAny_bind (wpAny_newObj_type (wpAny_pure ?_) (Nat.le_trans (slicePick_size_le (Array.mk xs) none (some 3) none) (by show xs.length <= _; lia)))
 show R _ { s with heap := s.heap.push { cls := .type "list", data := .seq (slicePick (Array.mk xs) none (some 3) none) } }
 rw [Akl]
 exact hR
theorem X8 {w : World} {a b tok sz : Nat} {xs ys : List Value} {n m : Nat} (hx : xs.length + ys.length <= 4000) :
  Ac pw w (.call (.builtin "list.__add__") ⟨[.ref a, .ref b], []⟩) tok sz [(a, A9 xs n), (b, A9 ys m)] [] [A9 (xs ++ ys) 0] (.ref sz) 0 := by
 intro A s R hA hD hg ht hn hrd hR
 have hl := hrd.1
 have hb := hrd.2.1
 dsimp only at hl hb
 have hT : s.TypeIs (.ref a) "list" := ⟨_, hl, rfl⟩
 have hsz : sizeLine = 16777216 := rfl
 refine codeAny_call_builtin _root_.PySem.F.slot_list_add.plain _root_.PySem.F.entry_list_add (_root_.PySem.F.slot_list_add.check _ _ _ _ _ _ _ _ hT (_root_.PySem.F.args_list_add_2 _ _)
  (AutoSeq1.list___add___list_list_0 a (Array.mk xs) n b (Array.mk ys) m (by show xs.length + ys.length <= _; lia) _ w A R s ⟨hl, hb, ?_⟩))
 subst ht hn
 have e : (Array.mk xs) ++ (Array.mk ys) = Array.mk (xs ++ ys) := by simp
 rw [e]
 exact hR
theorem Wg (xs ys : List Value) (n : Nat) (h : ys ≠ []) : Obj.mapSeq (fun x => x ++ Array.mk ys) (A9 xs n) = A9 (xs ++ ys) (n + 1) := by
 show (⟨_, _, .seq (Array.mk xs ++ Array.mk ys) (if (Array.mk xs ++ Array.mk ys).size == (Array.mk xs).size then n else n + 1), _⟩ : Obj) = _
 have h1 : ((Array.mk xs ++ Array.mk ys).size == (Array.mk xs).size) = false := by
  cases ys with
  | nil => exact (h rfl).elim
  | cons y ys => simp
 have e : (Array.mk xs) ++ (Array.mk ys) = Array.mk (xs ++ ys) := by simp
 rw [h1, e]
 rfl
theorem Cx {w : World} {a b tok sz : Nat} {xs ys : List Value} {n m : Nat} (hx : xs.length + ys.length <= 4000) (hy : ys ≠ []) :
  Ac pw w (.call (.builtin "list.__iadd__") ⟨[.ref a, .ref b], []⟩) tok sz [(a, A9 xs n), (b, A9 ys m)] [(a, A9 (xs ++ ys) (n + 1))] [] (.ref a) 0 := by
 intro A s R hA hD hg ht hn hrd hR
 have hl := hrd.1
 have hb := hrd.2.1
 dsimp only at hl hb
 have hT : s.TypeIs (.ref a) "list" := ⟨_, hl, rfl⟩
 have hsz : sizeLine = 16777216 := rfl
 refine codeAny_call_builtin _root_.PySem.F.slot_list_iadd.plain _root_.PySem.F.entry_list_iadd (_root_.PySem.F.slot_list_iadd.check _ _ _ _ _ _ _ _ hT (_root_.PySem.F.args_list_iadd_2 _ _)
  (AutoSeq1.list___iadd___list_list_0 a (Array.mk xs) n b (Array.mk ys) m (by
   simp only [Builtin.List.listTooLong, Bool.and_eq_true, decide_eq_true_eq, not_and]
   intro _
   show ¬ (xs.length + ys.length > _)
   lia) (by show xs.length <= _; lia) (by show xs.length + ys.length <= _; lia) _ w A R s ⟨hl, hb, ?_⟩))
 subst ht hn
 rw [Lv hl, Wg xs ys n hy]
 exact hR
theorem Ca {w : World} {a tok sz : Nat} {xs : List Value} {n : Nat} {k : Int} (hk : k = xs.length) (h : xs.length <= 4000) :
  Ac pw w (.builtin "len" ⟨[.ref a], []⟩) tok sz [(a, A9 xs n)] [] [] (.int k (tok + 1)) 2 := by
 intro A s R hA hD hg ht hn hrd hR
 have hl := hrd.1
 dsimp only at hl
 have hT : s.TypeIs (.ref a) "list" := ⟨_, hl, rfl⟩
 subst ht hk
 refine codeAny_builtin entry_len ?_
 rw [Around.under_plainId plain_len]
 unfold Builtin.«len»
 refine wpAny_bind (m := oneArg "len" _) (wpAny_pure ?_)
 refine wpAny_bind (m := callSpecial? (.ref a) (Str.ofString "__len__")) (wpAny_callSpecial?_slot (name := Str.ofString "__len__") hT slot_list_len
  (wpAny_call_entry slot_list_len hT entry_list_len ?_ (args_list_len _)))
 show wpAny _ _ (do retInt (<- seqSize a)) _ _ s
 unfold seqSize
 refine wpAny_bind (wpAny_bind (wpAny_load hl ?_))
 refine wpAny_pure (wpAny_bind (wpAny_mkInt (wpAny_pure ⟨_, rfl, ?_⟩)))
 refine wpAny_bind (wpAny_holding (wpAny_pure ?_))
 refine wpAny_bind (wpAny_letGo ?_)
 have hz : (Array.mk xs).size = xs.length := rfl
 show wpAny _ _ (if (((Array.mk xs).size : Nat) : Int) < 0 then _ else _) _ _ _
 rw [if_neg (by lia)]
 show wpAny _ _ (if (((Array.mk xs).size : Nat) : Int) >= 2 ^ 63 then _ else _) _ _ _
 rw [if_neg (by lia)]
 exact wpAny_bind (wpAny_mkInt (wpAny_pure hR))
end Mine
end
namespace Mine
noncomputable def Dz (P : Params) (nm : List Nat) (t : Nat) (v : Value) : DictEntry := ⟨PyData.keyHash P ⟨⟨nm⟩⟩, .str ⟨⟨nm⟩⟩ t, v⟩
noncomputable def I9 : List Nat := [115, 99, 114, 105, 112, 116]
noncomputable def F8 : List Nat := [101, 110, 116, 114, 105, 101, 115]
noncomputable def nX : List Nat := [120]
noncomputable def Cw (P : Params) (S EL ta tb : Nat) : List DictEntry := [Dz P I9 ta (.ref S), Dz P F8 tb (.ref EL)]
noncomputable def Hh (P : Params) (L it : Nat) : Code := Hg P 833 832 L it (B5 (Bl P 833) 1)
noncomputable def enT (P : Params) (L it : Nat) (v : Value) : Sem Fin := PySem.W.R.bindR (I6 (Fi (B5 (Bl P 833) 1)) (.ref it) v (Eb (B5 (Bl P 833) 1)) (D5 P 833 832 L)) fun f => .pure (.done f)
noncomputable def Ahf (k : Nat) : List Value := [.str ⟨#[97]⟩ k, .str ⟨#[32]⟩ (k+1), .str ⟨#[34]⟩ (k+2), .str ⟨#[92]⟩ (k+3), .str ⟨#[39]⟩ (k+4), .str ⟨#[35]⟩ (k+5), .str ⟨#[55]⟩ (k+6), .str ⟨#[98]⟩ (k+7)]
noncomputable def gi (w : World) (a : Nat) (i : Int) (u tok sz k : Nat) (c s : Nat) : Prop := Ac pw w (.call (.builtin "list.__getitem__") ⟨[.ref a, .int i u], []⟩) tok sz [(a, A9 (Ahf k) 0)] [] [] (.str ⟨#[c]⟩ s) 0
section
variable (U : Fl) (N tk : Nat)
noncomputable abbrev Agq (N EL : Nat) (xs : List Value) (n c1 c2 c3 c4 s1 s2 s3 s4 : Nat) : List Gv := [.u ⟨.str ⟨#[c1]⟩ s1, 0, [3], [], []⟩, .u ⟨.str ⟨#[c2]⟩ s2, 0, [3], [], []⟩, .u ⟨.str ⟨#[c3]⟩ s3, 0, [5], [], []⟩, .u ⟨.str ⟨#[c4]⟩ s4, 0, [5], [], []⟩, .u ⟨.none, 0, [1], [(1, A9 (xs ++ [.ref (N+884+4)]) (n+1))], []⟩]
noncomputable abbrev Aek (w : World) (N tk EL : Nat) (xs : List Value) (n : Nat) (xv : Int) (c1 c2 c3 c4 s1 s2 s3 s4 : Nat) : List Prop :=
 [Ac pw w (.call (.builtin "list.append") ⟨[.ref EL, .ref (N+884+4)], []⟩) (tk+1614) (N+884+5) [(EL, A9 xs n)] [(EL, A9 (xs ++ [.ref (N+884+4)]) (n+1))] [] .none 0,
 gi w (N+884+3) (Int.fmod (Int.fdiv (Int.fdiv xv 512) 8) 8) (tk+1612) (tk+1613) (N+884+4) (tk+1598) c4 s4, gi w (N+884+3) (Int.fmod (Int.fdiv xv 512) 8) (tk+1608) (tk+1609) (N+884+4) (tk+1598) c3 s3,
 gi w (N+884+1) (Int.fmod (Int.fdiv (Int.fdiv xv 8) 8) 8) (tk+1593) (tk+1594) (N+884+2) (tk+1579) c2 s2, gi w (N+884+1) (Int.fmod (Int.fdiv xv 8) 8) (tk+1589) (tk+1590) (N+884+2) (tk+1579) c1 s1]
noncomputable abbrev Kj (tk : Nat) (xv : Int) (c1 c2 c3 c4 : Nat) : Obj := Ek [.int (Int.fmod xv 8) (tk+1575), .str ⟨#[c1, c2]⟩ (tk+1594), .str ⟨#[c3, c4]⟩ (tk+1613)]
noncomputable abbrev Ahs : Nat := (x2 0x4fef003fef6660000552fef66600555500550100010001fef4440000330fef444003333003301000100012222111)
theorem Adp (L S EL it ta tb tx : Nat) (xs : List Value) (n : Nat) (xv : Int) (xt : Nat) (c1 c2 c3 c4 s1 s2 s3 s4 : Nat) (old : Value) : Ev 330 U.W [L, EL] 2 N tk (Agq N EL xs n c1 c2 c3 c4 s1 s2 s3 s4)
  [A0 (Cw U.P S EL ta tb ++ [Dz U.P nX tx old]) 3, A9 xs n] 300 Ahs
  (Hh U.P L it) .base (enT U.P L it (.int xv xt))
  [0, 1, 6] (.fin .next) (om [A0 (Cw U.P S EL ta tb ++ [Dz U.P nX tx (.int xv xt)]) 3, A9 (xs ++ [.ref (N+884+4)]) (n+1), Kj tk xv c1 c2 c3 c4]) 5 41
  (Aek U.W N tk EL xs n xv c1 c2 c3 c4 s1 s2 s3 s4) := by
 kernel_rfl
theorem Afm (L S EL it ta tb : Nat) (xs : List Value) (n : Nat) (xv : Int) (xt : Nat) (c1 c2 c3 c4 s1 s2 s3 s4 : Nat) : Ev 330 U.W [L, EL] 2 N tk (Agq N EL xs n c1 c2 c3 c4 s1 s2 s3 s4)
  [A0 (Cw U.P S EL ta tb) 2, A9 xs n] 300 Ahs
  (Hh U.P L it) .base (enT U.P L it (.int xv xt))
  [0, 1, 6] (.fin .next) (om [A0 (Cw U.P S EL ta tb ++ [Dz U.P nX (tk+1573) (.int xv xt)]) 3, A9 (xs ++ [.ref (N+884+4)]) (n+1), Kj tk xv c1 c2 c3 c4]) 5 41
  (Aek U.W N tk EL xs n xv c1 c2 c3 c4 s1 s2 s3 s4) := by
 kernel_rfl
noncomputable abbrev eCs (N : Nat) (vs : List Value) (tk : Nat) : List Gv := [.u ⟨.ref (N+884+3), 0, [0, 3], [], [A9 (vs.take 3) 0]⟩, .u ⟨.ref (N+884+5), 0, [4, 5], [], [A9 (vs.take 3 ++ [.int 139 (tk+1576), .int 700 (tk+1577)]) 0]⟩]
noncomputable abbrev Tv (S : Nat) (vs : List Value) (n : Nat) : Res := Ay 330 U.W [S] 1 N tk (eCs N vs tk) [A9 vs n] 100 (x2 0x28070771fef5650fef111222002201)
  (.call (.ref 833) ⟨[.ref S], []⟩) .base (.pure (.again (.call (.ref 833) ⟨[.ref S], []⟩)))
theorem Ai2 (S : Nat) (vs : List Value) (n : Nat) : Ev 330 U.W [S] 1 N tk (eCs N vs tk) [A9 vs n] 100 (x2 0x28070771fef5650fef111222002201)
  (.call (.ref 833) ⟨[.ref S], []⟩) .base (.pure (.again (.call (.ref 833) ⟨[.ref S], []⟩)))
  [1, 2, 7, 6, 0] (.call (Hh U.P (N+884) (N+884+6)) 1)
  (om [A0 (Cw U.P S (N+884+1) (tk+1573) (tk+1574)) 2, A9 [] 0, Bh (N+884+5) 0 none #[], A9 (vs.take 3 ++ [.int 139 (tk+1576), .int 700 (tk+1577)]) 0, A9 vs n]) 7 5
  [Ac pw U.W (.call (.builtin "list.__add__") ⟨[.ref (N+884+3), .ref (N+884+4)], []⟩) (tk+1578) (N+884+5) [(N+884+3, A9 (vs.take 3) 0), (N+884+4, A9 [.int 139 (tk+1576), .int 700 (tk+1577)] 0)] [] [A9 (vs.take 3 ++ [.int 139 (tk+1576), .int 700 (tk+1577)]) 0] (.ref (N+884+5)) 0,
  Ac pw U.W (.call (.builtin "list.__getitem__") ⟨[.ref S, .ref (N+884+2)], []⟩) (tk+1576) (N+884+3) [(S, A9 vs n), (N+884+2, sl3 (tk+1575))] [] [A9 (vs.take 3) 0] (.ref (N+884+3)) 0] := by
 obtain ⟨b, _⟩ := U; cases b <;> kernel_rfl
theorem Ah6 (S : Nat) (vs : List Value) (n M K EL : Nat) (fr : Obj) (ta tb : Nat) (rest : List DictEntry) (nd : Nat) : Ev 330 U.W [N+884] 1 M K [] [A0 (Cw U.P S EL ta tb ++ rest) nd] 20 0x01
  (Tv U N tk S vs n).c (Tv U N tk S vs n).κ (Cb (Tv U N tk S vs n).t (.ok .next))
  [] (.fin (.ret (.ref EL))) [] 0 0 [] := by
 obtain ⟨b, _⟩ := U; cases b <;> kernel_rfl
end
structure Ent where
 k : Nat
 c1 : Nat
 c2 : Nat
 c3 : Nat
 c4 : Nat
noncomputable def pc (i : Nat) : Nat := [97, 32, 34, 92, 39, 35, 55, 98].getD i 0
noncomputable def ix (x : Int) : Nat := (Int.fmod x 8).toNat
noncomputable def B1 (x : Int) : Ent := ⟨ix x, pc (ix (Int.fdiv x 8)), pc (ix (Int.fdiv (Int.fdiv x 8) 8)), pc (ix (Int.fdiv x 512)), pc (ix (Int.fdiv (Int.fdiv x 512) 8))⟩
theorem Qz (x : Int) : Int.fmod x 8 = (ix x : Int) /\ ix x < 8 := by
 have h := Int.fmod_eq_emod_of_nonneg x (show (0:Int) <= 8 by decide)
 have h0 := Int.emod_nonneg x (show (8:Int) ≠ 0 by decide)
 have h1 := Int.emod_lt_of_pos x (show (0:Int) < 8 by decide)
 unfold ix
 lia
theorem Rd (w : World) (a : Nat) (x : Int) (u tok sz k : Nat) : gi w a (Int.fmod x 8) u tok sz k (pc (ix x)) (k + ix x) := by
 obtain ⟨h, h1⟩ := Qz x
 rw [h]
 refine Ag (by lia) (by lia) ?_
 have e : ((ix x : Int)).toNat = ix x := rfl
 rw [e]
 have key : ∀ i, i < 8 -> (Ahf k)[i]? = some (Value.str ⟨#[pc i]⟩ (k + i)) := by
  intro i hi
  match i with
  | 0 | 1 | 2 | 3 | 4 | 5 | 6 | 7 => rfl
  | n + 8 => lia
 exact key _ h1
inductive EntsAre : List (Nat × Obj) -> List Ent -> Prop
 | nil : EntsAre [] []
 | cons (a : Nat) (e : Ent) (t1 t2 t3 : Nat) {T es} : EntsAre T es -> EntsAre ((a, Ek [.int e.k t1, .str ⟨#[e.c1, e.c2]⟩ t2, .str ⟨#[e.c3, e.c4]⟩ t3]) :: T) (e :: es)
theorem EntsAre.snoc {T : List (Nat × Obj)} {es : List Ent} (h : EntsAre T es) (a : Nat) (e : Ent) (t1 t2 t3 : Nat) : EntsAre (T ++ [(a, Ek [.int e.k t1, .str ⟨#[e.c1, e.c2]⟩ t2, .str ⟨#[e.c3, e.c4]⟩ t3])]) (es ++ [e]) := by
 induction h with
 | nil => exact .cons _ _ _ _ _ .nil
 | cons a' e' u1 u2 u3 _ ih => exact .cons _ _ _ _ _ ih
theorem EntsAre.length {T : List (Nat × Obj)} {es : List Ent} (h : EntsAre T es) : T.length = es.length := by
 induction h with
 | nil => rfl
 | cons _ _ _ _ _ _ ih => simp [ih]
noncomputable def Ab (T : List (Nat × Obj)) : List Value := T.map fun p => .ref p.1
inductive IntsV : List Value -> List Int -> Prop
 | nil : IntsV [] []
 | cons (x : Int) (t : Nat) {vs xs} : IntsV vs xs -> IntsV (.int x t :: vs) (x :: xs)
theorem IntsV.append {vs ws : List Value} {xs ys : List Int} (h : IntsV vs xs) (g : IntsV ws ys) : IntsV (vs ++ ws) (xs ++ ys) := by
 induction h with
 | nil => exact g
 | cons x t _ ih => exact .cons x t ih
theorem IntsV.take {vs : List Value} {xs : List Int} (h : IntsV vs xs) (k : Nat) : IntsV (vs.take k) (xs.take k) := by
 induction h generalizing k with
 | nil => simp; exact .nil
 | cons x t _ ih =>
  cases k with
  | zero => simp; exact .nil
  | succ k => simp; exact .cons x t (ih k)
section
variable {w : World} {A : Around} {s : Shared}
theorem Cc {env : Env} (h : R (.ok .next) s) : codeAny (Ak w) A (.block [] env) R s := by
 refine y_code _ _ _ _ _ _ ?_
 show wpOwn (Ak w) A (.block [] env) ((PySem.execs [] env).onRaise _ >>= fun f => (pure (PySem.Fin.done f) : Sem PySem.Fin)) _ _ s
 exact wpOwn_bind (Cf (Aw (An h)))
end
section
variable {U : Fl}
theorem Zm : L8 (B5 (Bl U.P 833) 1) = [] := by kernel_rfl
noncomputable def Ah0 (P : Params) (S EL ta tb : Nat) (fr : Obj) : Prop := fr = A0 (Cw P S EL ta tb) 2 \/ ∃ tx old, fr = A0 (Cw P S EL ta tb ++ [Dz P nX tx old]) 3
theorem Abm {L S EL it l ta tb m : Nat} {all : List Value} {F : List (Nat × Obj)} (hall : all.length <= 1000) : ∀ (rem : List Int) (vs : List Value) (i : Nat) (dd : Option Addr) (sl : Array (Option Value)) (fr : Obj) (T : List (Nat × Obj)) (es : List Ent) (n : Nat) (A : Around) (s : Shared) (R : Result -> Shared -> Prop),
  all.drop i = vs -> i <= all.length -> IntsV vs rem -> Ah0 U.P S EL ta tb fr -> EntsAre T es -> T.length <= i -> A.handled = none -> A.depth <= 330 ->
  At U.W s ((it, Bh l i dd sl) :: (l, A9 all m) :: ([(L, fr), (EL, A9 (Ab T) n)] ++ (T ++ F))) ->
  (∀ s' o' fr' T' n', Ah0 U.P S EL ta tb fr' -> EntsAre T' (es ++ rem.map B1) -> At U.W s' ((it, o') :: (l, A9 all m) :: ([(L, fr'), (EL, A9 (Ab T') n')] ++ (T' ++ F))) -> Keeps [it, L, EL] s s' -> R (.ok .next) s') ->
  codeAny (Ak U.W) A (Hh U.P L it) R s
 | [], vs, i, dd, sl, fr, T, es, n, A, s, R, hv, hi, hI, hfr, hT, hTi, hA, hD, H, cont => by
  cases hI
  unfold Hh Hg
  refine Fb ?_
  have hil : all.length = i := by
   have h := congrArg List.length hv
   simp at h
   lia
  refine Ir hA hil H ?_
  intro s1 o1 H1 K1 _
  rw [Zm]
  refine Cc (cont s1 o1 fr T n hfr (by simpa using hT) H1 (K1.mono (by intro y hy; simp at hy; simp [hy])))
 | x :: rem, vs, i, dd, sl, fr, T, es, n, A, s, R, hv, hi, hI, hfr, hT, hTi, hA, hD, H, cont => by
  obtain ⟨t, vs', rfl, hI'⟩ : ∃ t vs', vs = .int x t :: vs' /\ IntsV vs' rem := by
   cases hI with
   | cons x t h => exact ⟨t, _, rfl, h⟩
  have hlt : i < all.length := by
   have h := congrArg List.length hv
   simp at h
   lia
  have hx : all[i]? = some (.int x t) := by
   have h := List.drop_eq_getElem_cons hlt
   rw [hv] at h
   rw [List.getElem?_eq_getElem hlt]
   exact congrArg some (List.cons.inj h).1.symm
  have hv' : all.drop (i + 1) = vs' := by
   have h := List.drop_eq_getElem_cons hlt
   rw [hv] at h
   exact (List.cons.inj h).2.symm
  unfold Hh Hg
  refine Fb ?_
  refine Gm hx H ?_
  intro s1 dd1 sl1 H1 K1 hT1 hS1
  have H1a : At U.W s1 ([(L, fr), (EL, A9 (Ab T) n)] ++ ((it, Bh l (i + 1) dd1 sl1) :: (l, A9 all m) :: (T ++ F))) := H1.perm (by
   refine List.Perm.trans ?_ (List.Perm.refl _)
   exact (List.perm_middle (a := (it, Bh l (i + 1) dd1 sl1)) (l₁ := [(L, fr), (EL, A9 (Ab T) n)])).trans (List.Perm.cons _ (List.perm_middle (a := (l, A9 all m)) (l₁ := [(L, fr), (EL, A9 (Ab T) n)]))))
  obtain ⟨N, tk, hN, hTk⟩ := H1a.NT
  have hlen : (Ab T).length <= 4000 := by unfold Ab; rw [List.length_map]; lia
  have obs : Iv (Aek U.W N tk EL (Ab T) n x (B1 x).c1 (B1 x).c2 (B1 x).c3 (B1 x).c4 (tk+1579 + ix (Int.fdiv x 8)) (tk+1579 + ix (Int.fdiv (Int.fdiv x 8) 8)) (tk+1598 + ix (Int.fdiv x 512)) (tk+1598 + ix (Int.fdiv (Int.fdiv x 512) 8))) :=
   ⟨Fv hlen, Rd _ _ _ _ _ _ _, Rd _ _ _ _ _ _ _, Rd _ _ _ _ _ _ _, Rd _ _ _ _ _ _ _, trivial⟩
  have fin : ∀ (s2 : Shared) (tx : Nat), At U.W s2 [(L, A0 (Cw U.P S EL ta tb ++ [Dz U.P nX tx (.int x t)]) 3), (EL, A9 (Ab T ++ [.ref (N+884+4)]) (n+1)), (N+884+4, Kj tk x (B1 x).c1 (B1 x).c2 (B1 x).c3 (B1 x).c4)] -> Keeps [L, EL] s1 s2 ->
    codeAny (Ak U.W) A (Hh U.P L it) R s2 := by
   intro s2 tx H2 K2
   have e1 : Kj tk x (B1 x).c1 (B1 x).c2 (B1 x).c3 (B1 x).c4 = Ek [.int (B1 x).k (tk+1575), .str ⟨#[(B1 x).c1, (B1 x).c2]⟩ (tk+1594), .str ⟨#[(B1 x).c3, (B1 x).c4]⟩ (tk+1613)] := by
    unfold Kj
    rw [(Qz x).1]
    rfl
   rw [e1] at H2
   have H2a := At.next H1a H2 K2 (fun q hq => by
    rcases List.mem_cons.mp hq with rfl | hq
    ·exact .inl (.head _)
    ·rcases List.mem_cons.mp hq with rfl | hq
     ·exact .inl (.tail _ (.head _))
     ·right
      have : q.1 = N+884+4 := by simpa using congrArg Prod.fst (List.mem_singleton.mp hq)
      lia)
   refine Abm (l := l) (m := m) (F := F) hall rem vs' (i+1) dd1 sl1 (A0 (Cw U.P S EL ta tb ++ [Dz U.P nX tx (.int x t)]) 3) (T ++ [(N+884+4, Ek [.int (B1 x).k (tk+1575), .str ⟨#[(B1 x).c1, (B1 x).c2]⟩ (tk+1594), .str ⟨#[(B1 x).c3, (B1 x).c4]⟩ (tk+1613)])]) (es ++ [B1 x]) (n+1) A s2 R hv' (by lia) hI' (.inr ⟨_, _, rfl⟩) (hT.snoc _ _ _ _ _) (by simp; lia) hA hD (H2a.perm ?_) ?_
   ·have e2 : Ab (T ++ [(N+884+4, Ek [.int (B1 x).k (tk+1575), .str ⟨#[(B1 x).c1, (B1 x).c2]⟩ (tk+1594), .str ⟨#[(B1 x).c3, (B1 x).c4]⟩ (tk+1613)])]) = Ab T ++ [.ref (N+884+4)] := by simp [Ab]
    rw [e2]
    generalize Ek [.int (B1 x).k (tk+1575), .str ⟨#[(B1 x).c1, (B1 x).c2]⟩ (tk+1594), .str ⟨#[(B1 x).c3, (B1 x).c4]⟩ (tk+1613)] = o1
    generalize (it, Bh l (i + 1) dd1 sl1) = p1
    generalize (l, A9 all m) = p2
    generalize (L, A0 (Cw U.P S EL ta tb ++ [Dz U.P nX tx (.int x t)]) 3) = p3
    generalize (EL, A9 (Ab T ++ [.ref (N+884+4)]) (n+1)) = p4
    generalize (N+884+4, o1) = p5
    show List.Perm (p1 :: p2 :: p3 :: p4 :: ((T ++ [p5]) ++ F)) (p3 :: p4 :: p5 :: p1 :: p2 :: (T ++ F))
    have h1 : List.Perm ((T ++ [p5]) ++ F) (p5 :: (T ++ F)) := by
     rw [List.append_assoc]
     exact List.perm_middle
    have h2 : List.Perm (p1 :: p2 :: p3 :: p4 :: ((T ++ [p5]) ++ F)) (p1 :: p2 :: p3 :: p4 :: p5 :: (T ++ F)) := (((h1.cons _).cons _).cons _).cons _
    refine h2.trans ?_
    exact (List.perm_append_comm (l₁ := [p1, p2]) (l₂ := [p3, p4, p5])).append_right (T ++ F)
   ·intro s' o' fr' T' n' hfr' hT' H' K'
    refine cont s' o' fr' T' n' hfr' (by simpa [List.append_assoc] using hT') H' ((K1.mono (by intro y hy; simp at hy; simp [hy])).trans ((K2.mono (by intro y hy; simp at hy; rcases hy with h | h <;> simp [h])).trans K'))
  rcases hfr with rfl | ⟨tx, old, rfl⟩
  ·refine Bj (C5 (W := [0, 1, 6].zip [A0 (Cw U.P S EL ta tb ++ [Dz U.P nX (tk+1573) (.int x t)]) 3, A9 (Ab T ++ [.ref (N+884+4)]) (n+1), Kj tk x (B1 x).c1 (B1 x).c2 (B1 x).c3 (B1 x).c4]) (Afm U N tk L S EL it ta tb (Ab T) n x t (B1 x).c1 (B1 x).c2 (B1 x).c3 (B1 x).c4 _ _ _ _) hA hD H1a.left rfl rfl rfl hN hTk rfl rfl (by decide) (by decide) obs ?_)
   intro s2 H2 K2 _ _
   exact fin s2 _ H2 K2
  ·refine Bj (C5 (W := [0, 1, 6].zip [A0 (Cw U.P S EL ta tb ++ [Dz U.P nX tx (.int x t)]) 3, A9 (Ab T ++ [.ref (N+884+4)]) (n+1), Kj tk x (B1 x).c1 (B1 x).c2 (B1 x).c3 (B1 x).c4]) (Adp U N tk L S EL it ta tb tx (Ab T) n x t (B1 x).c1 (B1 x).c2 (B1 x).c3 (B1 x).c4 _ _ _ _ old) hA hD H1a.left rfl rfl rfl hN hTk rfl rfl (by decide) (by decide) obs ?_)
   intro s2 H2 K2 _ _
   exact fin s2 _ H2 K2
end
section
variable {U : Fl}
theorem Q0 {S n : Nat} {vs : List Value} {xs : List Int} {F : List (Nat × Obj)} (hI : IntsV vs xs) (hlen : vs.length <= 900)
  (hA : A.handled = none) (hD : A.depth <= 320) (H : At U.W s ([(S, A9 vs n)] ++ F))
  (cont : ∀ s' EL T n', EntsAre T ((xs.take 3 ++ [139, 700]).map B1) -> At U.W s' ([(EL, A9 (Ab T) n')] ++ (T ++ ((S, A9 vs n) :: F))) -> Keeps [S] s s' -> R (.ok (.ret (.ref EL))) s') :
  codeAny (Ak U.W) A (.call (.ref 833) ⟨[.ref S], []⟩) R s := by
 obtain ⟨N, tk, hN, hT⟩ := H.NT
 have hl3 : (vs.take 3).length <= 3 := by rw [List.length_take]; lia
 refine Aa (C5 (W := [1, 2, 7, 6, 0].zip [A0 (Cw U.P S (N+884+1) (tk+1573) (tk+1574)) 2, A9 [] 0, Bh (N+884+5) 0 none #[], A9 (vs.take 3 ++ [.int 139 (tk+1576), .int 700 (tk+1577)]) 0, A9 vs n]) (Ai2 U N tk S vs n) hA (dl hD) H.left rfl rfl rfl hN hT rfl rfl (by decide) (by decide)
  ⟨X8 (by simp; lia), Qf (by lia), trivial⟩ ?_)
 intro s1 H1 K1 _ hSz1
 have H1a : At U.W s1 ([(N+884, A0 (Cw U.P S (N+884+1) (tk+1573) (tk+1574)) 2), (N+884+1, A9 [] 0), (N+884+6, Bh (N+884+5) 0 none #[]), (N+884+5, A9 (vs.take 3 ++ [.int 139 (tk+1576), .int 700 (tk+1577)]) 0), (S, A9 vs n)] ++ F) :=
  At.next H H1 K1 (fun q hq => by
   have hq2 : q ∈ [(N+884, A0 (Cw U.P S (N+884+1) (tk+1573) (tk+1574)) 2), (N+884+1, A9 [] 0), (N+884+6, Bh (N+884+5) 0 none #[]), (N+884+5, A9 (vs.take 3 ++ [.int 139 (tk+1576), .int 700 (tk+1577)]) 0), (S, A9 vs n)] := hq
   simp only [List.mem_cons, List.not_mem_nil, or_false] at hq2
   rcases hq2 with rfl | rfl | rfl | rfl | rfl
   ·right; dsimp only; lia
   ·right; dsimp only; lia
   ·right; dsimp only; lia
   ·right; dsimp only; lia
   ·exact .inl (.head _))
 have H1a : At U.W s1 ([(N+884, A0 (Cw U.P S (N+884+1) (tk+1573) (tk+1574)) 2), (N+884+1, A9 [] 0), (N+884+6, Bh (N+884+5) 0 none #[]), (N+884+5, A9 (vs.take 3 ++ [.int 139 (tk+1576), .int 700 (tk+1577)]) 0)] ++ ((S, A9 vs n) :: F)) := H1a
 generalize (S, A9 vs n) :: F = G at H1a cont
 intro A' hA' hD'
 have hI2 : IntsV (vs.take 3 ++ [.int 139 (tk+1576), .int 700 (tk+1577)]) (xs.take 3 ++ [139, 700]) := (hI.take 3).append (.cons _ _ (.cons _ _ .nil))
 refine Abm (S := S) (EL := N+884+1) (ta := tk+1573) (tb := tk+1574) (l := N+884+5) (m := 0) (F := G) (all := vs.take 3 ++ [Value.int 139 (tk+1576), Value.int 700 (tk+1577)]) (by simp; lia) (xs.take 3 ++ [139, 700]) _ 0 none #[] _ [] [] 0 A' s1 _ rfl (Nat.zero_le _) hI2 (.inl rfl) .nil (Nat.le_refl _) hA' (Dv hD' hD) (H1a.perm ?_) ?_
 ·show List.Perm ([(N+884+6, Bh (N+884+5) 0 none #[]), (N+884+5, A9 (vs.take 3 ++ [.int 139 (tk+1576), .int 700 (tk+1577)]) 0)] ++ [(N+884, A0 (Cw U.P S (N+884+1) (tk+1573) (tk+1574)) 2), (N+884+1, A9 [] 0)] ++ G) _
  exact (List.perm_append_comm (l₁ := [_, _]) (l₂ := [_, _])).append_right G
 ·intro s2 o2 fr2 T2 n2 hfr2 hT2 H2 K2
  have hfr3 : ∃ rest nd, fr2 = A0 (Cw U.P S (N+884+1) (tk+1573) (tk+1574) ++ rest) nd := by
   rcases hfr2 with rfl | ⟨tx, old, rfl⟩
   ·exact ⟨[], 2, rfl⟩
   ·exact ⟨_, _, rfl⟩
  obtain ⟨rest, nd, rfl⟩ := hfr3
  have H2a : At U.W s2 ([(N+884, A0 (Cw U.P S (N+884+1) (tk+1573) (tk+1574) ++ rest) nd)] ++ ((N+884+6, o2) :: (N+884+5, A9 (vs.take 3 ++ [.int 139 (tk+1576), .int 700 (tk+1577)]) 0) :: (N+884+1, A9 (Ab T2) n2) :: (T2 ++ G))) := H2.perm (by
   exact (List.perm_append_comm (l₁ := [(N+884, A0 (Cw U.P S (N+884+1) (tk+1573) (tk+1574) ++ rest) nd)]) (l₂ := [(N+884+6, o2), (N+884+5, A9 (vs.take 3 ++ [.int 139 (tk+1576), .int 700 (tk+1577)]) 0)])).append_right ((N+884+1, A9 (Ab T2) n2) :: (T2 ++ G)))
  obtain ⟨N2, tk2, hN2, hTk2⟩ := H2a.NT
  refine C5 (W := []) (Ah6 U N tk S vs n N2 tk2 (N+884+1) default (tk+1573) (tk+1574) rest nd) hA (dl hD) H2a.left rfl rfl rfl hN2 hTk2 rfl rfl List.nodup_nil (by intro j hj; cases hj) trivial ?_
  intro s3 H3 K3 _ _
  have H3a : At U.W s3 _ := At.next H2a (L' := []) H3 K3 (by intro q hq; cases hq)
  refine cont s3 (N+884+1) T2 n2 (by simpa using hT2) (H3a.sub (fun q hq => .tail _ (.tail _ hq)) (List.nodup_cons.mp (List.nodup_cons.mp H3a.nd).2).2) ?_
  refine Keeps.trans_new (X := [S]) (Y := [N+884, N+884+1, N+884+6]) K1 ((K2.mono ?_).trans (K3.mono ?_)) ?_
  ·intro y hy; simp at hy; rcases hy with h | h | h <;> simp [h]
  ·intro y hy; simp at hy; simp [hy]
  ·intro y hy; simp at hy; lia
end
noncomputable def Kz : List Nat := [119, 111, 114, 100, 115]
noncomputable def L6 : List Nat := [112, 97, 116, 116, 101, 114, 110]
noncomputable def C8 : List Nat := [108, 111, 103, 105, 110]
noncomputable def B7 : List Nat := [112, 97, 115, 115, 119, 111, 114, 100]
noncomputable def Ax : List Nat := [109, 97, 99, 104, 105, 110, 101]
noncomputable def Co : List Nat := [100, 101, 102, 97, 117, 108, 116]
noncomputable def E0 : List Nat := [97, 110, 121, 32, 111, 110, 101]
noncomputable def As : Nat -> List Nat
 | 0 => [42, 46, 111, 114, 103]
 | 1 => [63, 46, 111, 114, 103]
 | 2 => [119, 119, 119, 46, 42]
 | 3 => [91, 97, 98, 93, 46, 111, 114, 103]
 | 4 => [91, 33, 97, 93, 42]
 | 5 => [42, 97, 42]
 | 6 => [120]
 | 7 => [97, 63]
 | _ => []
noncomputable def Ae3 : Nat -> Nat
 | 0 => 1574
 | 1 => 1578
 | 2 => 1581
 | 3 => 1583
 | 4 => 1586
 | 5 => 1590
 | 6 => 1594
 | 7 => 1596
 | _ => 0
noncomputable def Jf (P : Params) (EL WL ta tb : Nat) : List DictEntry := [Dz P F8 ta (.ref EL), Dz P Kz tb (.ref WL)]
noncomputable def Bu (P : Params) (EL WL ta tb tc td te : Nat) (pv lv sv : Value) : Obj := A0 (Jf P EL WL ta tb ++ [Dz P L6 tc pv, Dz P C8 td lv, Dz P B7 te sv]) 5
noncomputable def Ck (P : Params) (L it : Nat) : Code := Hg P 840 839 L it (B5 (Bl P 840) 1)
noncomputable abbrev Ci := PySem.W.Fast.tw1578499551869305889
noncomputable def Amg (P : Params) (it ta : Nat) : Sem Fin := PySem.W.R.bindR (Ci (Fi (B5 (Bl P 840) 1)) (.ref it) (.ref ta)) fun _ => .pure (.done .next)
noncomputable def Ajx (P : Params) (L ta : Nat) : Sem Fin := PySem.W.R.bindR (Go (Fi (B5 (Bl P 840) 1)) (D5 P 840 839 L) (.ref ta)) fun _ => .pure (.done .next)
noncomputable def Wt (P : Params) (L : Nat) : Sem Fin := PySem.W.R.bindR (Hj (Eb (B5 (Bl P 840) 1)) (D5 P 840 839 L)) fun f => .pure (.done f)
noncomputable def Ch (tk k : Nat) (lv sv : Value) : List Value := [.str ⟨⟨Ax⟩⟩ (tk+1573), .str ⟨⟨As k⟩⟩ (tk + Ae3 k), .str ⟨⟨C8⟩⟩ (tk+1599), lv, .str ⟨⟨B7⟩⟩ (tk+1600), sv]
noncomputable def G8 (tk : Nat) : List Value := [.str ⟨⟨Co⟩⟩ (tk+1578), .str ⟨⟨C8⟩⟩ (tk+1579), .str ⟨⟨E0⟩⟩ (tk+1580), .str ⟨⟨B7⟩⟩ (tk+1581), .str ⟨⟨nX⟩⟩ (tk+1582)]
section
variable (U : Fl) (N tk : Nat)
theorem Ae7 (L it l i ta : Nat) (dd : Option Addr) (sl : Array (Option Value)) : Es 330 U.W [it] 1 N tk [] [Bh l i dd sl] 30 0x01 (Ck U.P L it) .base (Amg U.P it ta) [0] (.fin .next) 0 0 [] := by
 kernel_rfl
noncomputable abbrev Akw : Nat := (x2 0x11111164434404044434404044434404044434404044030333)
theorem Aa6 (WO : Obj) (L it EL WL ta tb tu t1 t2 t3 : Nat) (k : Int) (c1 c2 : Str) : Ev 330 U.W [L, WL, tu] 3 N tk [] [A0 (Jf U.P EL WL ta tb) 2, WO, Ek [.int k t1, .str c1 t2, .str c2 t3]] 120 Akw (Ck U.P L it) .base (Ajx U.P L tu) [0, 1, 2] (.fin .next) (om [Bu U.P EL WL ta tb (tk+1573) (tk+1574) (tk+1575) (.int k t1) (.str c1 t2) (.str c2 t3), WO, Ek [.int k t1, .str c1 t2, .str c2 t3]]) 3 3 [] := by
 obtain ⟨b, _⟩ := U; cases b <;> kernel_rfl
theorem Yc (WO : Obj) (L it EL WL ta tb tu t1 t2 t3 : Nat) (k : Int) (c1 c2 : Str) (tc td te : Nat) (o1 o2 o3 : Value) : Ev 330 U.W [L, WL, tu] 3 N tk [] [Bu U.P EL WL ta tb tc td te o1 o2 o3, WO, Ek [.int k t1, .str c1 t2, .str c2 t3]] 120 Akw (Ck U.P L it) .base (Ajx U.P L tu) [0, 1, 2] (.fin .next) (om [Bu U.P EL WL ta tb tc td te (.int k t1) (.str c1 t2) (.str c2 t3), WO, Ek [.int k t1, .str c1 t2, .str c2 t3]]) 3 3 [] := by
 obtain ⟨b, _⟩ := U; cases b <;> kernel_rfl
theorem Af5 (L it EL WL ta tb tc td te t1 n : Nat) (xs : List Value) (lv sv : Str) (tl ts : Nat) : Ev 330 U.W [L, WL] 2 N tk [.u ⟨.ref WL, 0, [1, 20], [(1, A9 (xs ++ Ch tk 0 (.str lv tl) (.str sv ts)) (n+1))], []⟩] [Bu U.P EL WL ta tb tc td te (.int 0 t1) (.str lv tl) (.str sv ts), A9 xs n] 200 (x2 0x110fef15f221105050555014f014f014f14f14f10001001) (Ck U.P L it) .base (Wt U.P L) [0, 1] (.fin .next) (om [Bu U.P EL WL ta tb tc td te (.int 0 t1) (.str lv tl) (.str sv ts), A9 (xs ++ Ch tk 0 (.str lv tl) (.str sv ts)) (n+1)]) 19 29
  [Ac pw U.W (.call (.builtin "list.__iadd__") ⟨[.ref WL, .ref (N+884+18)], []⟩) (tk+1601) (N+884+19) [(WL, A9 xs n), (N+884+18, A9 (Ch tk 0 (.str lv tl) (.str sv ts)) 0)] [(WL, A9 (xs ++ Ch tk 0 (.str lv tl) (.str sv ts)) (n+1))] [] (.ref WL) 0] := by
 kernel_rfl
theorem Acs (L it EL WL ta tb tc td te t1 n : Nat) (xs : List Value) (lv sv : Str) (tl ts : Nat) : Ev 330 U.W [L, WL] 2 N tk [.u ⟨.ref WL, 0, [1, 20], [(1, A9 (xs ++ Ch tk 1 (.str lv tl) (.str sv ts)) (n+1))], []⟩] [Bu U.P EL WL ta tb tc td te (.int 1 t1) (.str lv tl) (.str sv ts), A9 xs n] 200 (x2 0x110fef15f221107070777014f014f014f14f14f10001001) (Ck U.P L it) .base (Wt U.P L) [0, 1] (.fin .next) (om [Bu U.P EL WL ta tb tc td te (.int 1 t1) (.str lv tl) (.str sv ts), A9 (xs ++ Ch tk 1 (.str lv tl) (.str sv ts)) (n+1)]) 19 29
  [Ac pw U.W (.call (.builtin "list.__iadd__") ⟨[.ref WL, .ref (N+884+18)], []⟩) (tk+1601) (N+884+19) [(WL, A9 xs n), (N+884+18, A9 (Ch tk 1 (.str lv tl) (.str sv ts)) 0)] [(WL, A9 (xs ++ Ch tk 1 (.str lv tl) (.str sv ts)) (n+1))] [] (.ref WL) 0] := by
 kernel_rfl
theorem Ae8 (L it EL WL ta tb tc td te t1 n : Nat) (xs : List Value) (lv sv : Str) (tl ts : Nat) : Ev 330 U.W [L, WL] 2 N tk [.u ⟨.ref WL, 0, [1, 20], [(1, A9 (xs ++ Ch tk 2 (.str lv tl) (.str sv ts)) (n+1))], []⟩] [Bu U.P EL WL ta tb tc td te (.int 2 t1) (.str lv tl) (.str sv ts), A9 xs n] 200 (x2 0x110fef15f221109090999014f014f014f14f14f10001001) (Ck U.P L it) .base (Wt U.P L) [0, 1] (.fin .next) (om [Bu U.P EL WL ta tb tc td te (.int 2 t1) (.str lv tl) (.str sv ts), A9 (xs ++ Ch tk 2 (.str lv tl) (.str sv ts)) (n+1)]) 19 29
  [Ac pw U.W (.call (.builtin "list.__iadd__") ⟨[.ref WL, .ref (N+884+18)], []⟩) (tk+1601) (N+884+19) [(WL, A9 xs n), (N+884+18, A9 (Ch tk 2 (.str lv tl) (.str sv ts)) 0)] [(WL, A9 (xs ++ Ch tk 2 (.str lv tl) (.str sv ts)) (n+1))] [] (.ref WL) 0] := by
 kernel_rfl
theorem Ace (L it EL WL ta tb tc td te t1 n : Nat) (xs : List Value) (lv sv : Str) (tl ts : Nat) : Ev 330 U.W [L, WL] 2 N tk [.u ⟨.ref WL, 0, [1, 20], [(1, A9 (xs ++ Ch tk 3 (.str lv tl) (.str sv ts)) (n+1))], []⟩] [Bu U.P EL WL ta tb tc td te (.int 3 t1) (.str lv tl) (.str sv ts), A9 xs n] 200 (x2 0x110fef15f22110b0b0bbb014f014f014f14f14f10001001) (Ck U.P L it) .base (Wt U.P L) [0, 1] (.fin .next) (om [Bu U.P EL WL ta tb tc td te (.int 3 t1) (.str lv tl) (.str sv ts), A9 (xs ++ Ch tk 3 (.str lv tl) (.str sv ts)) (n+1)]) 19 29
  [Ac pw U.W (.call (.builtin "list.__iadd__") ⟨[.ref WL, .ref (N+884+18)], []⟩) (tk+1601) (N+884+19) [(WL, A9 xs n), (N+884+18, A9 (Ch tk 3 (.str lv tl) (.str sv ts)) 0)] [(WL, A9 (xs ++ Ch tk 3 (.str lv tl) (.str sv ts)) (n+1))] [] (.ref WL) 0] := by
 kernel_rfl
theorem Acb (L it EL WL ta tb tc td te t1 n : Nat) (xs : List Value) (lv sv : Str) (tl ts : Nat) : Ev 330 U.W [L, WL] 2 N tk [.u ⟨.ref WL, 0, [1, 20], [(1, A9 (xs ++ Ch tk 4 (.str lv tl) (.str sv ts)) (n+1))], []⟩] [Bu U.P EL WL ta tb tc td te (.int 4 t1) (.str lv tl) (.str sv ts), A9 xs n] 200 (x2 0x110fef15f22110d0d0ddd014f014f014f14f14f10001001) (Ck U.P L it) .base (Wt U.P L) [0, 1] (.fin .next) (om [Bu U.P EL WL ta tb tc td te (.int 4 t1) (.str lv tl) (.str sv ts), A9 (xs ++ Ch tk 4 (.str lv tl) (.str sv ts)) (n+1)]) 19 29
  [Ac pw U.W (.call (.builtin "list.__iadd__") ⟨[.ref WL, .ref (N+884+18)], []⟩) (tk+1601) (N+884+19) [(WL, A9 xs n), (N+884+18, A9 (Ch tk 4 (.str lv tl) (.str sv ts)) 0)] [(WL, A9 (xs ++ Ch tk 4 (.str lv tl) (.str sv ts)) (n+1))] [] (.ref WL) 0] := by
 kernel_rfl
theorem Acd (L it EL WL ta tb tc td te t1 n : Nat) (xs : List Value) (lv sv : Str) (tl ts : Nat) : Ev 330 U.W [L, WL] 2 N tk [.u ⟨.ref WL, 0, [1, 20], [(1, A9 (xs ++ Ch tk 5 (.str lv tl) (.str sv ts)) (n+1))], []⟩] [Bu U.P EL WL ta tb tc td te (.int 5 t1) (.str lv tl) (.str sv ts), A9 xs n] 200 (x2 0x110fef15f221100ff00ff00ff0ff0ff014f014f014f14f14f10001001) (Ck U.P L it) .base (Wt U.P L) [0, 1] (.fin .next) (om [Bu U.P EL WL ta tb tc td te (.int 5 t1) (.str lv tl) (.str sv ts), A9 (xs ++ Ch tk 5 (.str lv tl) (.str sv ts)) (n+1)]) 19 29
  [Ac pw U.W (.call (.builtin "list.__iadd__") ⟨[.ref WL, .ref (N+884+18)], []⟩) (tk+1601) (N+884+19) [(WL, A9 xs n), (N+884+18, A9 (Ch tk 5 (.str lv tl) (.str sv ts)) 0)] [(WL, A9 (xs ++ Ch tk 5 (.str lv tl) (.str sv ts)) (n+1))] [] (.ref WL) 0] := by
 kernel_rfl
theorem Adw (L it EL WL ta tb tc td te t1 n : Nat) (xs : List Value) (lv sv : Str) (tl ts : Nat) : Ev 330 U.W [L, WL] 2 N tk [.u ⟨.ref WL, 0, [1, 20], [(1, A9 (xs ++ Ch tk 6 (.str lv tl) (.str sv ts)) (n+1))], []⟩] [Bu U.P EL WL ta tb tc td te (.int 6 t1) (.str lv tl) (.str sv ts), A9 xs n] 200 (x2 0x110fef15f2211011f011f011f11f11f014f014f014f14f14f10001001) (Ck U.P L it) .base (Wt U.P L) [0, 1] (.fin .next) (om [Bu U.P EL WL ta tb tc td te (.int 6 t1) (.str lv tl) (.str sv ts), A9 (xs ++ Ch tk 6 (.str lv tl) (.str sv ts)) (n+1)]) 19 29
  [Ac pw U.W (.call (.builtin "list.__iadd__") ⟨[.ref WL, .ref (N+884+18)], []⟩) (tk+1601) (N+884+19) [(WL, A9 xs n), (N+884+18, A9 (Ch tk 6 (.str lv tl) (.str sv ts)) 0)] [(WL, A9 (xs ++ Ch tk 6 (.str lv tl) (.str sv ts)) (n+1))] [] (.ref WL) 0] := by
 kernel_rfl
theorem Adx (L it EL WL ta tb tc td te t1 n : Nat) (xs : List Value) (lv sv : Str) (tl ts : Nat) : Ev 330 U.W [L, WL] 2 N tk [.u ⟨.ref WL, 0, [1, 20], [(1, A9 (xs ++ Ch tk 7 (.str lv tl) (.str sv ts)) (n+1))], []⟩] [Bu U.P EL WL ta tb tc td te (.int 7 t1) (.str lv tl) (.str sv ts), A9 xs n] 200 (x2 0x110fef15f2211013f013f013f13f13f014f014f014f14f14f10001001) (Ck U.P L it) .base (Wt U.P L) [0, 1] (.fin .next) (om [Bu U.P EL WL ta tb tc td te (.int 7 t1) (.str lv tl) (.str sv ts), A9 (xs ++ Ch tk 7 (.str lv tl) (.str sv ts)) (n+1)]) 19 29
  [Ac pw U.W (.call (.builtin "list.__iadd__") ⟨[.ref WL, .ref (N+884+18)], []⟩) (tk+1601) (N+884+19) [(WL, A9 xs n), (N+884+18, A9 (Ch tk 7 (.str lv tl) (.str sv ts)) 0)] [(WL, A9 (xs ++ Ch tk 7 (.str lv tl) (.str sv ts)) (n+1))] [] (.ref WL) 0] := by
 kernel_rfl
noncomputable abbrev Fz (EL : Nat) (es : List Value) (n : Nat) : Res := Ay 330 U.W [EL] 1 N tk [] [A9 es n] 60 (x2 0x2401011222002201) (.call (.ref 840) ⟨[.ref EL], []⟩) .base (.pure (.again (.call (.ref 840) ⟨[.ref EL], []⟩)))
theorem Ahz (EL : Nat) (es : List Value) (n : Nat) : Ev 330 U.W [EL] 1 N tk [] [A9 es n] 60 (x2 0x2401011222002201) (.call (.ref 840) ⟨[.ref EL], []⟩) .base (.pure (.again (.call (.ref 840) ⟨[.ref EL], []⟩)))
  [1, 2, 3, 0] (.call (Ck U.P (N+884) (N+884+2)) 1) (om [A0 (Jf U.P EL (N+884+1) (tk+1573) (tk+1574)) 2, A9 [] 0, Bh EL 0 none #[], A9 es n]) 3 2 [] := by
 obtain ⟨b, _⟩ := U; cases b <;> kernel_rfl
theorem Acx (M K EL WL : Nat) (es xs : List Value) (n m : Nat) (tc td te : Nat) (pv lv sv : Value) : Ev 330 U.W [N+884, EL, WL] 3 M K [.u ⟨.int 2 (K+1574), 2, [1], [], []⟩] [Bu U.P EL WL (tk+1573) (tk+1574) tc td te pv lv sv, A9 es n, A9 xs m] 100 (x2 0x100000fef0100)
  (Fz U N tk EL es n).c (Fz U N tk EL es n).κ (Cb (Fz U N tk EL es n).t (.ok .next))
  [1, 2] (.fin (.ret (.ref WL))) (om [A9 es n, A9 xs m]) 0 5
  [Ac pw U.W (.builtin "len" ⟨[.ref EL], []⟩) (K+1573) (M+884) [(EL, A9 es n)] [] [] (.int 2 (K+1574)) 2] := by
 obtain ⟨b, _⟩ := U; cases b <;> kernel_rfl
theorem Aet (M K EL WL : Nat) (es xs : List Value) (n m : Nat) (tc td te : Nat) (pv lv sv : Value) : Ev 330 U.W [N+884, EL, WL] 3 M K [.u ⟨.int 3 (K+1574), 2, [1], [], []⟩, .u ⟨.ref WL, 0, [2, 3], [(2, A9 (xs ++ G8 K) (m+1))], []⟩] [Bu U.P EL WL (tk+1573) (tk+1574) tc td te pv lv sv, A9 es n, A9 xs m] 100 (x2 0x1111fef433100000fef0100)
  (Fz U N tk EL es n).c (Fz U N tk EL es n).κ (Cb (Fz U N tk EL es n).t (.ok .next))
  [1, 2] (.fin (.ret (.ref WL))) (om [A9 es n, A9 (xs ++ G8 K) (m+1)]) 1 11
  [Ac pw U.W (.call (.builtin "list.__iadd__") ⟨[.ref WL, .ref (M+884)], []⟩) (K+1583) (M+884+1) [(WL, A9 xs m), (M+884, A9 (G8 K) 0)] [(WL, A9 (xs ++ G8 K) (m+1))] [] (.ref WL) 0, Ac pw U.W (.builtin "len" ⟨[.ref EL], []⟩) (K+1573) (M+884) [(EL, A9 es n)] [] [] (.int 3 (K+1574)) 2] := by
 obtain ⟨b, _⟩ := U; cases b <;> kernel_rfl
theorem Acv (M K EL WL : Nat) (es xs : List Value) (n m : Nat) (tc td te : Nat) (pv lv sv : Value) : Ev 330 U.W [N+884, EL, WL] 3 M K [.u ⟨.int 4 (K+1574), 2, [1], [], []⟩] [Bu U.P EL WL (tk+1573) (tk+1574) tc td te pv lv sv, A9 es n, A9 xs m] 100 (x2 0x100000fef0100)
  (Fz U N tk EL es n).c (Fz U N tk EL es n).κ (Cb (Fz U N tk EL es n).t (.ok .next))
  [1, 2] (.fin (.ret (.ref WL))) (om [A9 es n, A9 xs m]) 0 5
  [Ac pw U.W (.builtin "len" ⟨[.ref EL], []⟩) (K+1573) (M+884) [(EL, A9 es n)] [] [] (.int 4 (K+1574)) 2] := by
 obtain ⟨b, _⟩ := U; cases b <;> kernel_rfl
theorem Acl (M K EL WL : Nat) (es xs : List Value) (n m : Nat) (tc td te : Nat) (pv lv sv : Value) : Ev 330 U.W [N+884, EL, WL] 3 M K [.u ⟨.int 5 (K+1574), 2, [1], [], []⟩, .u ⟨.ref WL, 0, [2, 3], [(2, A9 (xs ++ G8 K) (m+1))], []⟩] [Bu U.P EL WL (tk+1573) (tk+1574) tc td te pv lv sv, A9 es n, A9 xs m] 100 (x2 0x1111fef433100000fef0100)
  (Fz U N tk EL es n).c (Fz U N tk EL es n).κ (Cb (Fz U N tk EL es n).t (.ok .next))
  [1, 2] (.fin (.ret (.ref WL))) (om [A9 es n, A9 (xs ++ G8 K) (m+1)]) 1 11
  [Ac pw U.W (.call (.builtin "list.__iadd__") ⟨[.ref WL, .ref (M+884)], []⟩) (K+1583) (M+884+1) [(WL, A9 xs m), (M+884, A9 (G8 K) 0)] [(WL, A9 (xs ++ G8 K) (m+1))] [] (.ref WL) 0, Ac pw U.W (.builtin "len" ⟨[.ref EL], []⟩) (K+1573) (M+884) [(EL, A9 es n)] [] [] (.int 5 (K+1574)) 2] := by
 obtain ⟨b, _⟩ := U; cases b <;> kernel_rfl
end
noncomputable def S8 (l : List Nat) : Str := ⟨⟨l⟩⟩
theorem StrsAre.app {vs ws : List Value} {xs ys : List Str} (h : StrsAre vs xs) (g : StrsAre ws ys) : StrsAre (vs ++ ws) (xs ++ ys) := by
 induction h with
 | nil => exact g
 | cons y t _ ih => exact .cons y t ih
theorem StrsAre.len {vs : List Value} {xs : List Str} (h : StrsAre vs xs) : vs.length = xs.length := by
 induction h with
 | nil => rfl
 | cons y t _ ih => simp [ih]
noncomputable def Az (e : Ent) : List (List Nat) := [Ax, As e.k, C8, [e.c1, e.c2], B7, [e.c3, e.c4]]
noncomputable def Ef : List (List Nat) := [Co, C8, E0, B7, nX]
noncomputable def Aq (es : List Ent) : List (List Nat) := es.flatMap Az ++ (if es.length % 2 = 1 then Ef else [])
theorem Ty (tk : Nat) (e : Ent) (t2 t3 : Nat) : StrsAre (Ch tk e.k (.str ⟨#[e.c1, e.c2]⟩ t2) (.str ⟨#[e.c3, e.c4]⟩ t3)) ((Az e).map S8) :=
 .cons _ _ (.cons _ _ (.cons _ _ (.cons _ _ (.cons _ _ (.cons _ _ .nil)))))
theorem M2 (tk : Nat) : StrsAre (G8 tk) (Ef.map S8) :=
 .cons _ _ (.cons _ _ (.cons _ _ (.cons _ _ (.cons _ _ .nil))))
section
variable {U : Fl}
theorem Aa7 : L8 (B5 (Bl U.P 840) 1) = [] := by kernel_rfl
theorem Ai3 {k : Nat} (hk : k < 8) {L it EL WL ta tb tc td te t1 n : Nat} {xs : List Value} {lv sv : Str} {tl ts : Nat} {M : List (Nat × Obj)} (hA : A.handled = none) (hD : A.depth <= 330) (hx : xs.length <= 900)
  (H : At U.W s ([(L, Bu U.P EL WL ta tb tc td te (.int k t1) (.str lv tl) (.str sv ts)), (WL, A9 xs n)] ++ M))
  (cont : ∀ s' tk, At U.W s' ([(L, Bu U.P EL WL ta tb tc td te (.int k t1) (.str lv tl) (.str sv ts)), (WL, A9 (xs ++ Ch tk k (.str lv tl) (.str sv ts)) (n+1))] ++ M) -> Keeps [L, WL] s s' -> R (.ok .next) s') :
  MK U.W A R (Ck U.P L it) .base (Wt U.P L) s := by
 obtain ⟨N, tk, hN, hT⟩ := H.NT
 have fin : ∀ s', At U.W s' [(L, Bu U.P EL WL ta tb tc td te (.int k t1) (.str lv tl) (.str sv ts)), (WL, A9 (xs ++ Ch tk k (.str lv tl) (.str sv ts)) (n+1))] -> Keeps [L, WL] s s' -> R (.ok .next) s' :=
  fun s' H' K' => cont s' tk (At.next H H' K' (fun q hq => .inl (List.mem_map_of_mem (f := (·.1)) hq))) K'
 match k, hk with
 | 0, _ => exact C5 (W := [0, 1].zip [_, _]) (Af5 U N tk L it EL WL ta tb tc td te t1 n xs lv sv tl ts) hA hD H.left rfl rfl rfl hN hT rfl rfl (by decide) (by decide) ⟨Cx (by show xs.length + 6 <= _; lia) (List.cons_ne_nil _ _), trivial⟩ (fun s' H' K' _ _ => fin s' H' K')
 | 1, _ => exact C5 (W := [0, 1].zip [_, _]) (Acs U N tk L it EL WL ta tb tc td te t1 n xs lv sv tl ts) hA hD H.left rfl rfl rfl hN hT rfl rfl (by decide) (by decide) ⟨Cx (by show xs.length + 6 <= _; lia) (List.cons_ne_nil _ _), trivial⟩ (fun s' H' K' _ _ => fin s' H' K')
 | 2, _ => exact C5 (W := [0, 1].zip [_, _]) (Ae8 U N tk L it EL WL ta tb tc td te t1 n xs lv sv tl ts) hA hD H.left rfl rfl rfl hN hT rfl rfl (by decide) (by decide) ⟨Cx (by show xs.length + 6 <= _; lia) (List.cons_ne_nil _ _), trivial⟩ (fun s' H' K' _ _ => fin s' H' K')
 | 3, _ => exact C5 (W := [0, 1].zip [_, _]) (Ace U N tk L it EL WL ta tb tc td te t1 n xs lv sv tl ts) hA hD H.left rfl rfl rfl hN hT rfl rfl (by decide) (by decide) ⟨Cx (by show xs.length + 6 <= _; lia) (List.cons_ne_nil _ _), trivial⟩ (fun s' H' K' _ _ => fin s' H' K')
 | 4, _ => exact C5 (W := [0, 1].zip [_, _]) (Acb U N tk L it EL WL ta tb tc td te t1 n xs lv sv tl ts) hA hD H.left rfl rfl rfl hN hT rfl rfl (by decide) (by decide) ⟨Cx (by show xs.length + 6 <= _; lia) (List.cons_ne_nil _ _), trivial⟩ (fun s' H' K' _ _ => fin s' H' K')
 | 5, _ => exact C5 (W := [0, 1].zip [_, _]) (Acd U N tk L it EL WL ta tb tc td te t1 n xs lv sv tl ts) hA hD H.left rfl rfl rfl hN hT rfl rfl (by decide) (by decide) ⟨Cx (by show xs.length + 6 <= _; lia) (List.cons_ne_nil _ _), trivial⟩ (fun s' H' K' _ _ => fin s' H' K')
 | 6, _ => exact C5 (W := [0, 1].zip [_, _]) (Adw U N tk L it EL WL ta tb tc td te t1 n xs lv sv tl ts) hA hD H.left rfl rfl rfl hN hT rfl rfl (by decide) (by decide) ⟨Cx (by show xs.length + 6 <= _; lia) (List.cons_ne_nil _ _), trivial⟩ (fun s' H' K' _ _ => fin s' H' K')
 | 7, _ => exact C5 (W := [0, 1].zip [_, _]) (Adx U N tk L it EL WL ta tb tc td te t1 n xs lv sv tl ts) hA hD H.left rfl rfl rfl hN hT rfl rfl (by decide) (by decide) ⟨Cx (by show xs.length + 6 <= _; lia) (List.cons_ne_nil _ _), trivial⟩ (fun s' H' K' _ _ => fin s' H' K')
 | k + 8, h => exact absurd h (by lia)
noncomputable def Ag5 (P : Params) (EL WL ta tb : Nat) (fr : Obj) : Prop := fr = A0 (Jf P EL WL ta tb) 2 \/ ∃ tc td te pv lv sv, fr = Bu P EL WL ta tb tc td te pv lv sv
theorem Abo {L EL WL it ta tb nE : Nat} {F : List (Nat × Obj)} : ∀ (Tr Td : List (Nat × Obj)) (er : List Ent) (dd : Option Addr) (sl : Array (Option Value)) (fr : Obj) (xs : List Value) (ys : List (List Nat)) (n : Nat) (A : Around) (s : Shared) (R : Result -> Shared -> Prop),
  EntsAre Tr er -> (∀ e ∈ er, e.k < 8) -> Ag5 U.P EL WL ta tb fr -> StrsAre xs (ys.map S8) -> xs.length + 6 * Tr.length <= 600 -> A.handled = none -> A.depth <= 330 ->
  At U.W s ((it, Bh EL Td.length dd sl) :: (EL, A9 (Ab (Td ++ Tr)) nE) :: ([(L, fr), (WL, A9 xs n)] ++ ((Td ++ Tr) ++ F))) ->
  (∀ s' o' fr' xs' n', Ag5 U.P EL WL ta tb fr' -> ((Tr ≠ [] \/ ∃ tc td te pv lv sv, fr = Bu U.P EL WL ta tb tc td te pv lv sv) -> ∃ tc td te pv lv sv, fr' = Bu U.P EL WL ta tb tc td te pv lv sv) -> StrsAre xs' ((ys ++ er.flatMap Az).map S8) -> At U.W s' ((it, o') :: (EL, A9 (Ab (Td ++ Tr)) nE) :: ([(L, fr'), (WL, A9 xs' n')] ++ ((Td ++ Tr) ++ F))) -> Keeps ([it, L, WL] ++ Tr.map (·.1)) s s' -> R (.ok .next) s') ->
  codeAny (Ak U.W) A (Ck U.P L it) R s
 | [], Td, er, dd, sl, fr, xs, ys, n, A, s, R, hE, hk, hfr, hS, hl, hA, hD, H, cont => by
  cases hE
  unfold Ck Hg
  refine Dr ?_
  refine Ir hA (by simp [Ab]) H ?_
  intro s1 o1 H1 K1 _
  rw [Aa7]
  exact Cc (cont s1 o1 fr xs n hfr (fun h => h.elim (fun h => (h rfl).elim) id) (by simpa using hS) H1 (K1.mono (by intro y hy; simp at hy; simp [hy])))
 | p :: Tr, Td, er, dd, sl, fr, xs, ys, n, A, s, R, hE, hk, hfr, hS, hl, hA, hD, H, cont => by
  obtain ⟨a, e, t1, t2, t3, er', rfl, rfl, hE'⟩ : ∃ a e t1 t2 t3 er', p = (a, Ek [.int e.k t1, .str ⟨#[e.c1, e.c2]⟩ t2, .str ⟨#[e.c3, e.c4]⟩ t3]) /\ er = e :: er' /\ EntsAre Tr er' := by
   cases hE with
   | cons a e t1 t2 t3 h => exact ⟨a, e, t1, t2, t3, _, rfl, rfl, h⟩
  have hxx : (Ab (Td ++ (a, Ek [.int e.k t1, .str ⟨#[e.c1, e.c2]⟩ t2, .str ⟨#[e.c3, e.c4]⟩ t3]) :: Tr))[Td.length]? = some (.ref a) := by simp [Ab]
  unfold Ck Hg
  refine Dr ?_
  refine Gm hxx H ?_
  intro s1 dd1 sl1 H1 K1 _ _
  obtain ⟨N1, tk1, hN1, hT1⟩ := H1.NT
  generalize ho : Ek [.int e.k t1, .str ⟨#[e.c1, e.c2]⟩ t2, .str ⟨#[e.c3, e.c4]⟩ t3] = o at *
  have H1x : At U.W s1 ([(it, Bh EL (Td.length + 1) dd1 sl1)] ++ ((EL, A9 (Ab (Td ++ (a, o) :: Tr)) nE) :: ([(L, fr), (WL, A9 xs n)] ++ ((Td ++ (a, o) :: Tr) ++ F)))) := H1
  have hlo : @letOwnedTupleGo = Ci := PySem.W.Fast.te1578499551869305889
  rw [hlo]
  refine By (C5 (W := [0].zip [_]) (Ae7 U N1 tk1 L it EL (Td.length + 1) a dd1 sl1) hA hD H1x.left rfl rfl rfl hN1 hT1 rfl rfl (by decide) (by decide) trivial ?_)
  intro s2 H2 K2 _ _
  have H2a := At.next H1x H2 K2 (fun q hq => .inl (List.mem_map_of_mem (f := (·.1)) hq))
  have P2 : List.Perm ([(L, fr), (WL, A9 xs n), (a, o)] ++ ((it, Bh EL (Td.length + 1) dd1 sl1) :: (EL, A9 (Ab (Td ++ (a, o) :: Tr)) nE) :: ((Td ++ Tr) ++ F))) ([(it, Bh EL (Td.length + 1) dd1 sl1)] ++ ((EL, A9 (Ab (Td ++ (a, o) :: Tr)) nE) :: ([(L, fr), (WL, A9 xs n)] ++ ((Td ++ (a, o) :: Tr) ++ F)))) := by
   generalize (it, Bh EL (Td.length + 1) dd1 sl1) = q1
   generalize (EL, A9 (Ab (Td ++ (a, o) :: Tr)) nE) = q2
   generalize (L, fr) = q3
   generalize (WL, A9 xs n) = q4
   generalize (a, o) = q5
   show List.Perm (([q3, q4, q5] ++ [q1, q2]) ++ ((Td ++ Tr) ++ F)) (([q1, q2] ++ [q3, q4]) ++ ((Td ++ q5 :: Tr) ++ F))
   have h1 : List.Perm ((Td ++ q5 :: Tr) ++ F) (q5 :: ((Td ++ Tr) ++ F)) := (List.perm_middle (a := q5) (l₁ := Td) (l₂ := Tr)).append_right F
   refine List.Perm.trans ?_ (List.Perm.append_left _ h1.symm)
   refine (List.perm_append_comm (l₁ := [q3, q4, q5]) (l₂ := [q1, q2])).append_right _
  have H2b := H2a.perm P2
  obtain ⟨N2, tk2, hN2, hT2⟩ := H2b.NT
  have rest : ∀ (s3 : Shared) (tc td te : Nat), At U.W s3 [(L, Bu U.P EL WL ta tb tc td te (.int e.k t1) (.str ⟨#[e.c1, e.c2]⟩ t2) (.str ⟨#[e.c3, e.c4]⟩ t3)), (WL, A9 xs n), (a, o)] -> Keeps [L, WL, a] s2 s3 ->
    wpOwn (Ak U.W) A (Ck U.P L it) (PySem.execs (Eb (B5 (Bl U.P 840) 1)) (D5 U.P 840 839 L)) (fun f s3 => match f with
      | .next | .cont => codeAny (Ak U.W) A (Ck U.P L it) R s3
      | .brk => R (.ok .next) s3
      | .ret v => R (.ok (.ret v)) s3) (fun _ _ => False) s3 := by
   intro s3 tc td te H3 K3
   have H3a := At.next H2b H3 K3 (fun q hq => .inl (List.mem_map_of_mem (f := (·.1)) hq))
   have hxl : xs.length <= 900 := by simp at hl; lia
   refine Bm (Bj (Ai3 (hk e (.head _)) (it := it) (EL := EL) (WL := WL) hA hD hxl (M := (a, o) :: ((it, Bh EL (Td.length + 1) dd1 sl1) :: (EL, A9 (Ab (Td ++ (a, o) :: Tr)) nE) :: ((Td ++ Tr) ++ F))) H3a ?_))
   intro s4 tk4 H4 K4
   have e9 : (Td ++ [(a, o)]) ++ Tr = Td ++ (a, o) :: Tr := by simp
   have l9 : (Td ++ [(a, o)]).length = Td.length + 1 := by simp
   refine Abo (nE := nE) (F := F) Tr (Td ++ [(a, o)]) er' dd1 sl1 (Bu U.P EL WL ta tb tc td te (.int e.k t1) (.str ⟨#[e.c1, e.c2]⟩ t2) (.str ⟨#[e.c3, e.c4]⟩ t3)) (xs ++ Ch tk4 e.k (.str ⟨#[e.c1, e.c2]⟩ t2) (.str ⟨#[e.c3, e.c4]⟩ t3)) (ys ++ Az e) (n+1) A s4 R hE' (fun e' h' => hk e' (.tail _ h')) (.inr ⟨_, _, _, _, _, _, rfl⟩) (by rw [List.map_append]; exact StrsAre.app hS (Ty tk4 e t2 t3)) (by simp [Ch] at hl ⊢; lia) hA hD ?_ ?_
   ·rw [e9, l9]
    refine H4.perm ?_
    generalize (it, Bh EL (Td.length + 1) dd1 sl1) = q1
    generalize (EL, A9 (Ab (Td ++ (a, o) :: Tr)) nE) = q2
    generalize (a, o) = q5
    generalize (L, Bu U.P EL WL ta tb tc td te (.int e.k t1) (.str ⟨#[e.c1, e.c2]⟩ t2) (.str ⟨#[e.c3, e.c4]⟩ t3)) = q3
    generalize (WL, A9 (xs ++ Ch tk4 e.k (.str ⟨#[e.c1, e.c2]⟩ t2) (.str ⟨#[e.c3, e.c4]⟩ t3)) (n+1)) = q4
    show List.Perm (([q1, q2] ++ [q3, q4]) ++ ((Td ++ q5 :: Tr) ++ F)) (([q3, q4, q5] ++ [q1, q2]) ++ ((Td ++ Tr) ++ F))
    have h1 : List.Perm ((Td ++ q5 :: Tr) ++ F) (q5 :: ((Td ++ Tr) ++ F)) := (List.perm_middle (a := q5) (l₁ := Td) (l₂ := Tr)).append_right F
    refine (List.Perm.append_left _ h1).trans ?_
    exact ((List.perm_append_comm (l₁ := [q1, q2]) (l₂ := [q3, q4, q5])).append_right _)
   ·intro s' o' fr' xs' n' hfr' h5 hS' H' K'
    rw [e9] at H'
    refine cont s' o' fr' xs' n' hfr' (fun _ => ?_) (by simpa [List.append_assoc] using hS') H' ?_
    ·exact h5 (.inr ⟨_, _, _, _, _, _, rfl⟩)
    ·refine (K1.mono ?_).trans ((K2.mono ?_).trans ((K3.mono ?_).trans ((K4.mono ?_).trans (K'.mono ?_))))
     ·intro y hy; simp at hy; simp [hy]
     ·intro y hy; simp at hy; simp [hy]
     ·intro y hy; simp at hy; rcases hy with h | h | h <;> simp [h]
     ·intro y hy; simp at hy; rcases hy with h | h <;> simp [h]
     ·intro y hy
      rcases List.mem_append.mp hy with h | h
      ·exact List.mem_append_left _ h
      ·exact List.mem_append_right _ (.tail _ h)
  rcases hfr with rfl | ⟨tc, td, te, pv, lv, sv, rfl⟩
  ·subst ho
   refine Bp (By (C5 (W := [0, 1, 2].zip [_, _, _]) (Aa6 U N2 tk2 (A9 xs n) L it EL WL ta tb a t1 t2 t3 e.k ⟨#[e.c1, e.c2]⟩ ⟨#[e.c3, e.c4]⟩) hA hD H2b.left rfl rfl rfl hN2 hT2 rfl rfl (by decide) (by decide) trivial ?_))
   intro s3 H3 K3 _ _
   exact rest s3 _ _ _ H3 K3
  ·subst ho
   refine Bp (By (C5 (W := [0, 1, 2].zip [_, _, _]) (Yc U N2 tk2 (A9 xs n) L it EL WL ta tb a t1 t2 t3 e.k ⟨#[e.c1, e.c2]⟩ ⟨#[e.c3, e.c4]⟩ tc td te pv lv sv) hA hD H2b.left rfl rfl rfl hN2 hT2 rfl rfl (by decide) (by decide) trivial ?_))
   intro s3 H3 K3 _ _
   exact rest s3 _ _ _ H3 K3
end
section
variable {U : Fl}
theorem W7 {EL nE : Nat} {T F : List (Nat × Obj)} {es : List Ent} (hE : EntsAre T es) (hk : ∀ e ∈ es, e.k < 8) (h2 : 2 <= es.length) (h5 : es.length <= 5)
  (hA : A.handled = none) (hD : A.depth <= 320) (H : At U.W s ([(EL, A9 (Ab T) nE)] ++ (T ++ F)))
  (cont : ∀ s' WL xs n, StrsAre xs ((Aq es).map S8) -> At U.W s' ([(WL, A9 xs n)] ++ ([(EL, A9 (Ab T) nE)] ++ (T ++ F))) -> Keeps (EL :: T.map (·.1)) s s' -> s.heap.objs.size <= WL -> R (.ok (.ret (.ref WL))) s') :
  codeAny (Ak U.W) A (.call (.ref 840) ⟨[.ref EL], []⟩) R s := by
 obtain ⟨N, tk, hN, hT⟩ := H.NT
 have hlen := hE.length
 have hrl : (Ab T).length = es.length := by unfold Ab; rw [List.length_map]; exact hlen
 refine Aa (C5 (W := [1, 2, 3, 0].zip [A0 (Jf U.P EL (N+884+1) (tk+1573) (tk+1574)) 2, A9 [] 0, Bh EL 0 none #[], A9 (Ab T) nE]) (Ahz U N tk EL (Ab T) nE) hA (dl hD) H.left rfl rfl rfl hN hT rfl rfl (by decide) (by decide) trivial ?_)
 intro s1 H1 K1 _ hSz1
 have H1a : At U.W s1 ([(N+884, A0 (Jf U.P EL (N+884+1) (tk+1573) (tk+1574)) 2), (N+884+1, A9 [] 0), (N+884+2, Bh EL 0 none #[]), (EL, A9 (Ab T) nE)] ++ (T ++ F)) :=
  At.next H H1 K1 (fun q hq => by
   have hq2 : q ∈ [(N+884, A0 (Jf U.P EL (N+884+1) (tk+1573) (tk+1574)) 2), (N+884+1, A9 [] 0), (N+884+2, Bh EL 0 none #[]), (EL, A9 (Ab T) nE)] := hq
   simp only [List.mem_cons, List.not_mem_nil, or_false] at hq2
   rcases hq2 with rfl | rfl | rfl | rfl
   ·right; dsimp only; lia
   ·right; dsimp only; lia
   ·right; dsimp only; lia
   ·exact .inl (.head _))
 intro A' hA' hD'
 refine Abo (WL := N+884+1) (EL := EL) (ta := tk+1573) (tb := tk+1574) (nE := nE) (F := F) T [] es none #[] _ [] [] 0 A' s1 _ hE hk (.inl rfl) .nil (by simp; lia) hA' (Dv hD' hD) (H1a.perm ?_) ?_
 ·show List.Perm (([(N+884+2, Bh EL 0 none #[]), (EL, A9 (Ab T) nE)] ++ [(N+884, A0 (Jf U.P EL (N+884+1) (tk+1573) (tk+1574)) 2), (N+884+1, A9 [] 0)]) ++ (T ++ F)) _
  exact (List.perm_append_comm (l₁ := [_, _]) (l₂ := [_, _])).append_right (T ++ F)
 ·intro s2 o2 fr2 xs2 n2 hfr2 hex hS2 H2 K2
  have hTne : T ≠ [] := by intro h; rw [h] at hlen; simp at hlen; lia
  obtain ⟨tc, td, te, pv, lv, sv, rfl⟩ := hex (.inl hTne)
  have H2 : At U.W s2 ((N+884+2, o2) :: (EL, A9 (Ab T) nE) :: ([(N+884, Bu U.P EL (N+884+1) (tk+1573) (tk+1574) tc td te pv lv sv), (N+884+1, A9 xs2 n2)] ++ (T ++ F))) := H2
  have H2a : At U.W s2 ([(N+884, Bu U.P EL (N+884+1) (tk+1573) (tk+1574) tc td te pv lv sv), (EL, A9 (Ab T) nE), (N+884+1, A9 xs2 n2)] ++ ((N+884+2, o2) :: (T ++ F))) := H2.perm (by
   generalize (N+884, Bu U.P EL (N+884+1) (tk+1573) (tk+1574) tc td te pv lv sv) = q1
   generalize (N+884+2, o2) = q2
   generalize (EL, A9 (Ab T) nE) = q3
   generalize (N+884+1, A9 xs2 n2) = q4
   show List.Perm (q1 :: q3 :: q4 :: q2 :: (T ++ F)) (q2 :: q3 :: q1 :: q4 :: (T ++ F))
   have h1 : List.Perm [q1, q3, q4, q2] [q2, q3, q1, q4] := by
    refine List.Perm.trans (List.perm_append_comm (l₁ := [q1, q3, q4]) (l₂ := [q2])) ?_
    exact List.Perm.cons _ (List.Perm.swap _ _ _)
   exact h1.append_right (T ++ F))
  obtain ⟨M, K, hM, hK⟩ := H2a.NT
  have hxl : xs2.length <= 600 := by
   have h := StrsAre.len hS2
   have hf : ∀ l : List Ent, (l.flatMap Az).length = 6 * l.length := by
    intro l
    induction l with
    | nil => rfl
    | cons a l ih => simp [Az, ih]; lia
   simp [hf] at h
   lia
  have fin : ∀ s3 xs3 n3, StrsAre xs3 ((Aq es).map S8) -> At U.W s3 [(EL, A9 (Ab T) nE), (N+884+1, A9 xs3 n3)] -> Keeps [N+884, EL, N+884+1] s2 s3 -> R (.ok (.ret (.ref (N+884+1)))) s3 := by
   intro s3 xs3 n3 hS3 H3 K3
   have H3a := At.next H2a H3 K3 (fun q hq => by
    rcases List.mem_cons.mp hq with rfl | hq
    ·exact .inl (.tail _ (.head _))
    ·have : q = (N+884+1, A9 xs3 n3) := by simpa using hq
     subst this
     exact .inl (.tail _ (.tail _ (.head _))))
   refine cont s3 (N+884+1) xs3 n3 hS3 ((H3a.sub (L' := (EL, A9 (Ab T) nE) :: (N+884+1, A9 xs3 n3) :: (T ++ F)) ?_ ?_).perm ?_) ?_ (by lia)
   ·intro q hq
    rcases List.mem_cons.mp hq with rfl | hq
    ·exact .head _
    ·rcases List.mem_cons.mp hq with rfl | hq
     ·exact .tail _ (.head _)
     ·exact .tail _ (.tail _ (.tail _ hq))
   ·have nd := H3a.nd
    have pm : List.Perm ([(EL, A9 (Ab T) nE), (N+884+1, A9 xs3 n3)] ++ ((N+884+2, o2) :: (T ++ F))) ((N+884+2, o2) :: (EL, A9 (Ab T) nE) :: (N+884+1, A9 xs3 n3) :: (T ++ F)) := List.perm_middle (l₁ := [_, _])
    exact (List.nodup_cons.mp ((pm.map (·.1)).nodup_iff.mp nd)).2
   ·exact List.Perm.swap _ _ _
   ·have kk : Keeps ([N+884, N+884+1, N+884+2] ++ (EL :: T.map (·.1))) s1 s3 := (K2.mono (by
     intro y hy
     rcases List.mem_append.mp hy with h | h
     ·simp at h
      rcases h with h | h | h <;> simp [h]
     ·exact List.mem_append_right _ (.tail _ h))).trans (K3.mono (by intro y hy; simp at hy; rcases hy with h | h | h <;> simp [h]))
    refine Keeps.trans_new (Y := [N+884, N+884+1, N+884+2]) (K1.mono (by intro y hy; simp at hy; simp [hy])) kk ?_
    intro y hy
    simp at hy
    lia
  match hn : es.length, h2, h5 with
  | 2, _, _ =>
   refine C5 (W := [1, 2].zip [A9 (Ab T) nE, A9 xs2 n2]) (Acx U N tk M K EL (N+884+1) (Ab T) xs2 nE n2 tc td te pv lv sv) hA (dl hD) H2a.left rfl rfl rfl hM hK rfl rfl (by decide) (by decide) ⟨Ca (by rw [hrl, hn]; rfl) (by rw [hrl]; lia), trivial⟩ ?_
   intro s3 H3 K3 _ _
   refine fin s3 _ _ ?_ H3 K3
   unfold Aq
   rw [if_neg (by rw [hn]; decide), List.append_nil]
   simpa using hS2
  | 3, _, _ =>
   refine C5 (W := [1, 2].zip [A9 (Ab T) nE, A9 (xs2 ++ G8 K) (n2+1)]) (Aet U N tk M K EL (N+884+1) (Ab T) xs2 nE n2 tc td te pv lv sv) hA (dl hD) H2a.left rfl rfl rfl hM hK rfl rfl (by decide) (by decide) ⟨Cx (by show xs2.length + 5 <= _; lia) (List.cons_ne_nil _ _), Ca (by rw [hrl, hn]; rfl) (by rw [hrl]; lia), trivial⟩ ?_
   intro s3 H3 K3 _ _
   refine fin s3 _ _ ?_ H3 K3
   unfold Aq
   rw [if_pos (by rw [hn]), List.map_append]
   exact StrsAre.app (by simpa using hS2) (M2 K)
  | 4, _, _ =>
   refine C5 (W := [1, 2].zip [A9 (Ab T) nE, A9 xs2 n2]) (Acv U N tk M K EL (N+884+1) (Ab T) xs2 nE n2 tc td te pv lv sv) hA (dl hD) H2a.left rfl rfl rfl hM hK rfl rfl (by decide) (by decide) ⟨Ca (by rw [hrl, hn]; rfl) (by rw [hrl]; lia), trivial⟩ ?_
   intro s3 H3 K3 _ _
   refine fin s3 _ _ ?_ H3 K3
   unfold Aq
   rw [if_neg (by rw [hn]; decide), List.append_nil]
   simpa using hS2
  | 5, _, _ =>
   refine C5 (W := [1, 2].zip [A9 (Ab T) nE, A9 (xs2 ++ G8 K) (n2+1)]) (Acl U N tk M K EL (N+884+1) (Ab T) xs2 nE n2 tc td te pv lv sv) hA (dl hD) H2a.left rfl rfl rfl hM hK rfl rfl (by decide) (by decide) ⟨Cx (by show xs2.length + 5 <= _; lia) (List.cons_ne_nil _ _), Ca (by rw [hrl, hn]; rfl) (by rw [hrl]; lia), trivial⟩ ?_
   intro s3 H3 K3 _ _
   refine fin s3 _ _ ?_ H3 K3
   unfold Aq
   rw [if_pos (by rw [hn]), List.map_append]
   exact StrsAre.app (by simpa using hS2) (M2 K)
  | 0, h, _ => lia
  | 1, h, _ => lia
  | n + 6, _, h => lia
end
noncomputable def Ahg : List Nat := [116, 101, 120, 116]
noncomputable def nK : List Nat := [107]
noncomputable def Vu : List Nat := [115, 112, 101, 99, 105, 97, 108]
noncomputable def Acq (P : Params) (WL ta tb : Nat) (tv : Value) : List DictEntry := [Dz P Kz ta (.ref WL), Dz P Ahg tb tv]
noncomputable def Op (P : Params) (WL ta tb : Nat) (tv : Value) : Obj := A0 (Acq P WL ta tb tv) 2
noncomputable def Nj (P : Params) (WL ta tb tc : Nat) (tv kv : Value) : Obj := A0 (Acq P WL ta tb tv ++ [Dz P nK tc kv]) 3
noncomputable def B2 (P : Params) (WL ta tb tc td : Nat) (tv kv sv : Value) : Obj := A0 (Acq P WL ta tb tv ++ [Dz P nK tc kv, Dz P Vu td sv]) 4
noncomputable def Lc (k : Nat) : Obj := A9 [.str ⟨#[32]⟩ k, .str ⟨#[9]⟩ (k+1), .str ⟨#[10]⟩ (k+2), .str ⟨#[13]⟩ (k+3)] 0
noncomputable def Wl : Stmt -> List Expr | .Assign t _ _ => t | _ => []
noncomputable def F2 : Stmt -> Expr | .Assign _ v _ => v | _ => .Name ⟨#[]⟩ ⟨0, 0, 0, 0⟩
noncomputable def C2 : Expr -> Expr | .Compare l _ _ _ => l | _ => .Name ⟨#[]⟩ ⟨0, 0, 0, 0⟩
noncomputable def Bi : Expr -> Expr | .Compare _ _ rs _ => rs.headD (.Name ⟨#[]⟩ ⟨0, 0, 0, 0⟩) | _ => .Name ⟨#[]⟩ ⟨0, 0, 0, 0⟩
noncomputable abbrev F5 := PySem.W.Fast.tw4016559146275205325
noncomputable abbrev Gp := PySem.W.Fast.tw2470068587113613483
noncomputable abbrev D7 := PySem.W.Fast.tw15628205474173192105
noncomputable def Ld (P : Params) : Stmt := B5 (Bl P 845) 1
noncomputable def Jb (P : Params) (i : Nat) : Stmt := B5 (Eb (Ld P)) i
noncomputable def Hw (P : Params) (L : Nat) : Env := D5 P 845 844 L
noncomputable def Ar (P : Params) (L it : Nat) : Code := Hg P 845 844 L it (Ld P)
noncomputable def Afd (P : Params) (L : Nat) (v : Value) : Sem Fin := PySem.W.R.bindR (Go (Fi (Ld P)) (Hw P L) v) fun _ => .pure (.done .next)
noncomputable def F7 (P : Params) (L : Nat) : Sem Fin := PySem.W.R.bindR (Ks (C2 (F2 (Jb P 0))) (Hw P L)) fun v => .pure (.done (.ret v))
noncomputable def Acg (P : Params) (L : Nat) : Sem Fin := PySem.W.R.bindR (Ks (Bi (F2 (Jb P 0))) (Hw P L)) fun v => .pure (.done (.ret v))
noncomputable def Akc (P : Params) (L : Nat) (cv : Value) : Sem Fin := PySem.W.R.bindR (PySem.W.R.bindR (F5 (Wl (Jb P 0)) (F2 (Jb P 0)) (Hw P L)) fun sw => Gp (Hw P L) cv sw ((D7 (Wl (Jb P 0)) (Hw P L)).map (·.2))) fun f => .pure (.done f)
noncomputable def Sy (P : Params) (L : Nat) : Sem Fin := PySem.W.R.bindR (Hj [Jb P 1, Jb P 2] (Hw P L)) fun f => .pure (.done f)
section
variable (U : Fl) (N tk : Nat)
noncomputable abbrev Hx4 : Nat := (x2 0x243330303330303300000fef02000022002201)
noncomputable abbrev Nf (WL n : Nat) (xs : List Value) : Res := Ay 330 U.W [WL] 1 N tk [.u ⟨.int (35) (tk+1577), 2, [0], [], []⟩] [A9 xs n] 103 Hx4 (.call (.ref 845) ⟨[.ref WL], []⟩) .base (.pure (.again (.call (.ref 845) ⟨[.ref WL], []⟩)))
theorem Y2 (WL n : Nat) (xs : List Value) : Ec 330 U.W [WL] 1 N tk [.u ⟨.int (35) (tk+1577), 2, [0], [], []⟩] [A9 xs n] 103 Hx4 (.call (.ref 845) ⟨[.ref WL], []⟩) [1, 3, 0] (.call (Ar U.P (N+884) (N+884+2)) 1) (om [Op U.P WL (tk+1573) (tk+1575) (.str ⟨#[]⟩ (tk+1574)), Bz 0 35, A9 xs n]) 3 7 [Ac pw U.W (.builtin "len" ⟨[.ref WL], []⟩) (tk+1576) (N+884+1) [(WL, A9 xs n)] [] [] (.int (35) (tk+1577)) 2] := by
 obtain ⟨b, _⟩ := U; cases b <;> kernel_rfl
theorem Xk (L it WL n ta tb tc td : Nat) (xs : List Value) (kv : Int) (kt : Nat) (txt : Str) (xt : Nat) : Ev 340 U.W [L, WL] 2 N tk [] [Op U.P WL ta tb (.str txt xt), A9 xs n] 47 0x0101 (Ar U.P L it) .base (Afd U.P L (.int kv kt)) [0, 1] (.fin .next) (om [Nj U.P WL ta tb (tk+1573) (.str txt xt) (.int kv kt), A9 xs n]) 0 1
  [] := by
 kernel_rfl
noncomputable abbrev Adi : Nat := (x2 0x55573333030300055533330303000555333303030005553333030300055533330303000555333303030005553333030300055533330303003000fef22211)
noncomputable abbrev Ad8 : Nat := (x2 0x55573333030300055533330303000555333303030005553333030300055533330303000555333303030005553333030300055533330303030303303000fef22211)
theorem Cs (L it WL n ta tb tc td : Nat) (xs : List Value) (kv : Int) (kt : Nat) (txt : Str) (xt : Nat) (wt : Nat) : Ev 340 U.W [L, WL] 2 N tk [.u ⟨.str y37 wt, 0, [1], [], []⟩] [Nj U.P WL ta tb tc (.str txt xt) (.int kv kt), A9 xs n] 275 (cond U.b2 Adi Ad8) (Ar U.P L it) .base (F7 U.P L) [0, 1, 3] (.fin (.ret (.ref (N+884+1)))) (om [Nj U.P WL ta tb tc (.str txt xt) (.int kv kt), A9 xs n, A9 [] 0]) 5 21
  [gI U.W WL kv kt (tk+1573) (N+884) xs n (.str ⟨#[109, 97, 99, 104, 105, 110, 101]⟩ wt)] := by
 obtain ⟨b, _, b2⟩ := U; cases b <;> cases b2 <;> kernel_rfl
theorem Wy (L it WL n ta tb tc td : Nat) (xs : List Value) (kv : Int) (kt : Nat) (txt : Str) (xt : Nat) : Ev 340 U.W [L, WL] 2 N tk [] [Nj U.P WL ta tb tc (.str txt xt) (.int kv kt), A9 xs n] 42 0x0 (Ar U.P L it) .base (Acg U.P L) [0, 1, 2] (.fin (.ret (.ref (N+884)))) (om [Nj U.P WL ta tb tc (.str txt xt) (.int kv kt), A9 xs n, A9 [] 0]) 1 0
  [] := by
 kernel_rfl
theorem Aa9 (L it WL n ta tb tc td : Nat) (xs : List Value) (kv : Int) (kt : Nat) (txt : Str) (xt : Nat) (cb : Bool) : Ev 340 U.W [L, WL] 2 N tk [] [Nj U.P WL ta tb tc (.str txt xt) (.int kv kt), A9 xs n] 47 0x0101 (Ar U.P L it) .base (Akc U.P L (.bool cb)) [0, 1] (.fin .next) (om [B2 U.P WL ta tb tc (tk+1573) (.str txt xt) (.int kv kt) (.bool cb), A9 xs n]) 0 1
  [] := by
 kernel_rfl
theorem P6 (L it WL n ta tb tc td : Nat) (xs : List Value) (kv : Int) (kt : Nat) (txt : Str) (xt wt sp st : Nat) (wd : Str) (r1 r2 : Str) : Ev 340 U.W [L, WL] 2 N tk [.u ⟨.bool false, 0, [], [], []⟩, .u ⟨.str wd wt, 0, [1], [], []⟩, .u ⟨.str ⟨#[sp]⟩ st, 0, [2], [], []⟩] [B2 U.P WL ta tb tc td (.str ⟨#[]⟩ xt) (.int kv kt) (.bool false), A9 xs n] 117 (x2 0x11e002fef333001111c01fef2221110fef000111) (Ar U.P L it) .base (Sy U.P L) [0, 1] (.fin .next) (om [B2 U.P WL ta tb tc td (.str (wd ++ ⟨#[sp]⟩) (tk+1583)) (.int kv kt) (.bool false), A9 xs n]) 1 12
  [(wd : Str).length ≠ 0, (⟨#[sp]⟩ : Str).length ≠ 0, (wd ++ ⟨#[sp]⟩ : Str).length <= sizeLine, Ac pw U.W (.call (.builtin "list.__getitem__") ⟨[.ref (N+884), .int (Int.fmod kv (4)) (tk+1582)], []⟩) (tk+1583) (N+884+1) [((N+884), (Lc (tk+1577)))] [] [] (.str ⟨#[sp]⟩ st) 0, (⟨#[]⟩ : Str).length = 0, gI U.W WL kv kt (tk+1576) (N+884) xs n (.str wd wt), Ac pw U.W (.builtin "int.__eq__" ⟨[.int (Int.fmod kv (3)) (tk+1574), .int (1) (tk+1575)], []⟩) (tk+1576) (N+884) [] [] [] (.bool false) 0] := by
 obtain ⟨b, _⟩ := U; cases b <;> kernel_rfl
theorem Wx (L it WL n ta tb tc td : Nat) (xs : List Value) (kv : Int) (kt : Nat) (txt : Str) (xt : Nat) (old sv : Value) : Ev 340 U.W [L, WL] 2 N tk [] [B2 U.P WL ta tb tc td (.str txt xt) old sv, A9 xs n] 47 0x0101 (Ar U.P L it) .base (Afd U.P L (.int kv kt)) [0, 1] (.fin .next) (om [B2 U.P WL ta tb tc td (.str txt xt) (.int kv kt) sv, A9 xs n]) 0 1
  [] := by
 kernel_rfl
noncomputable abbrev Hx8 : Nat := (x2 0x5557333303030005553333030300055533330303000555333303030005553333030300055533330303003000fef22211)
noncomputable abbrev Hx9 : Nat := (x2 0x5557333303030005553333030300055533330303000555333303030005553333030300055533330303030303303000fef22211)
theorem F1 (L it WL n ta tb tc td : Nat) (xs : List Value) (kv : Int) (kt : Nat) (txt : Str) (xt : Nat) (sv : Value) (wt : Nat) : Ev 340 U.W [L, WL] 2 N tk [.u ⟨.str y61 wt, 0, [1], [], []⟩] [B2 U.P WL ta tb tc td (.str txt xt) (.int kv kt) sv, A9 xs n] 223 (cond U.b2 Hx8 Hx9) (Ar U.P L it) .base (F7 U.P L) [0, 1, 3] (.fin (.ret (.ref (N+884+1)))) (om [B2 U.P WL ta tb tc td (.str txt xt) (.int kv kt) sv, A9 xs n, A9 [] 0]) 5 15
  [gI U.W WL kv kt (tk+1573) (N+884) xs n (.str ⟨#[42, 46, 111, 114, 103]⟩ wt)] := by
 obtain ⟨b, _, b2⟩ := U; cases b <;> cases b2 <;> kernel_rfl
theorem Aaj (L it WL n ta tb tc td : Nat) (xs : List Value) (kv : Int) (kt : Nat) (txt : Str) (xt : Nat) (sv : Value) : Ev 340 U.W [L, WL] 2 N tk [] [B2 U.P WL ta tb tc td (.str txt xt) (.int kv kt) sv, A9 xs n] 42 0x0 (Ar U.P L it) .base (Acg U.P L) [0, 1, 2] (.fin (.ret (.ref (N+884)))) (om [B2 U.P WL ta tb tc td (.str txt xt) (.int kv kt) sv, A9 xs n, A9 [] 0]) 1 0
  [] := by
 kernel_rfl
theorem Wp (L it WL n ta tb tc td : Nat) (xs : List Value) (kv : Int) (kt : Nat) (txt : Str) (xt : Nat) (cb : Bool) (sv : Value) : Ev 340 U.W [L, WL] 2 N tk [] [B2 U.P WL ta tb tc td (.str txt xt) (.int kv kt) sv, A9 xs n] 47 0x0101 (Ar U.P L it) .base (Akc U.P L (.bool cb)) [0, 1] (.fin .next) (om [B2 U.P WL ta tb tc td (.str txt xt) (.int kv kt) (.bool cb), A9 xs n]) 0 1
  [] := by
 kernel_rfl
theorem S2 (L it WL n ta tb tc td : Nat) (xs : List Value) (kv : Int) (kt : Nat) (txt : Str) (xt wt sp st : Nat) (wd : Str) (r1 r2 : Str) : Ev 340 U.W [L, WL] 2 N tk [.u ⟨.bool true, 0, [], [], []⟩, .u ⟨.str wd wt, 0, [1], [], []⟩, .u ⟨.str wd wt, 0, [], [], []⟩, .u ⟨.str wd wt, 0, [], [], []⟩, .u ⟨.str ⟨#[sp]⟩ st, 0, [2], [], []⟩] [B2 U.P WL ta tb tc td (.str txt xt) (.int kv kt) (.bool false), A9 xs n] 143 (x2 0x11e004fef333001111e0e0e03fef02fef01fef2221110fef000111) (Ar U.P L it) .base (Sy U.P L) [0, 1] (.fin .next) (om [B2 U.P WL ta tb tc td (.str ((txt ++ ((Mr ++ wd) ++ Mr)) ++ ⟨#[sp]⟩) (tk+1592)) (.int kv kt) (.bool false), A9 xs n]) 1 21
  [((txt ++ ((⟨#[34]⟩ ++ wd) ++ ⟨#[34]⟩)) : Str).length ≠ 0, (⟨#[sp]⟩ : Str).length ≠ 0, ((txt ++ ((⟨#[34]⟩ ++ wd) ++ ⟨#[34]⟩)) ++ ⟨#[sp]⟩ : Str).length <= sizeLine, Ac pw U.W (.call (.builtin "list.__getitem__") ⟨[.ref (N+884), .int (Int.fmod kv (4)) (tk+1591)], []⟩) (tk+1592) (N+884+1) [((N+884), (Lc (tk+1586)))] [] [] (.str ⟨#[sp]⟩ st) 0, (txt : Str).length ≠ 0, (((⟨#[34]⟩ ++ wd) ++ ⟨#[34]⟩) : Str).length ≠ 0, (txt ++ ((⟨#[34]⟩ ++ wd) ++ ⟨#[34]⟩) : Str).length <= sizeLine, ((⟨#[34]⟩ ++ wd) : Str).length ≠ 0, (⟨#[34]⟩ : Str).length ≠ 0, ((⟨#[34]⟩ ++ wd) ++ ⟨#[34]⟩ : Str).length <= sizeLine, (⟨#[34]⟩ : Str).length ≠ 0, (wd : Str).length ≠ 0, (⟨#[34]⟩ ++ wd : Str).length <= sizeLine, Ac pw U.W (.builtin "str.replace" ⟨[.str wd wt, .str ⟨#[34]⟩ (tk+1579), .str ⟨#[92, 34]⟩ (tk+1580)], []⟩) (tk+1581) (N+884) [] [] [] (.str wd wt) 0, Ac pw U.W (.builtin "str.replace" ⟨[.str wd wt, .str ⟨#[92]⟩ (tk+1577), .str ⟨#[92, 92]⟩ (tk+1578)], []⟩) (tk+1579) (N+884) [] [] [] (.str wd wt) 0, gI U.W WL kv kt (tk+1577) (N+884) xs n (.str wd wt), Ac pw U.W (.builtin "int.__eq__" ⟨[.int (Int.fmod kv (3)) (tk+1574), .int (1) (tk+1575)], []⟩) (tk+1576) (N+884) [] [] [] (.bool true) 0] := by
 obtain ⟨b, _⟩ := U; cases b <;> kernel_rfl
theorem Eg (L it WL n ta tb tc td : Nat) (xs : List Value) (kv : Int) (kt : Nat) (txt : Str) (xt : Nat) (sv : Value) (wt : Nat) : Ev 340 U.W [L, WL] 2 N tk [.u ⟨.str ⟨#[108, 111, 103, 105, 110]⟩ wt, 0, [1], [], []⟩] [B2 U.P WL ta tb tc td (.str txt xt) (.int kv kt) sv, A9 xs n] 223 (cond U.b2 Hx8 Hx9) (Ar U.P L it) .base (F7 U.P L) [0, 1, 3] (.fin (.ret (.ref (N+884+1)))) (om [B2 U.P WL ta tb tc td (.str txt xt) (.int kv kt) sv, A9 xs n, A9 [] 0]) 5 15
  [gI U.W WL kv kt (tk+1573) (N+884) xs n (.str ⟨#[108, 111, 103, 105, 110]⟩ wt)] := by
 obtain ⟨b, _, b2⟩ := U; cases b <;> cases b2 <;> kernel_rfl
theorem Qk (L it WL n ta tb tc td : Nat) (xs : List Value) (kv : Int) (kt : Nat) (txt : Str) (xt wt sp st : Nat) (wd : Str) (r1 r2 : Str) : Ev 340 U.W [L, WL] 2 N tk [.u ⟨.bool false, 0, [], [], []⟩, .u ⟨.str wd wt, 0, [1], [], []⟩, .u ⟨.str ⟨#[sp]⟩ st, 0, [2], [], []⟩] [B2 U.P WL ta tb tc td (.str txt xt) (.int kv kt) (.bool false), A9 xs n] 117 (x2 0x11e002fef333001111e01fef2221110fef000111) (Ar U.P L it) .base (Sy U.P L) [0, 1] (.fin .next) (om [B2 U.P WL ta tb tc td (.str ((txt ++ wd) ++ ⟨#[sp]⟩) (tk+1584)) (.int kv kt) (.bool false), A9 xs n]) 1 13
  [((txt ++ wd) : Str).length ≠ 0, (⟨#[sp]⟩ : Str).length ≠ 0, ((txt ++ wd) ++ ⟨#[sp]⟩ : Str).length <= sizeLine, Ac pw U.W (.call (.builtin "list.__getitem__") ⟨[.ref (N+884), .int (Int.fmod kv (4)) (tk+1583)], []⟩) (tk+1584) (N+884+1) [((N+884), (Lc (tk+1578)))] [] [] (.str ⟨#[sp]⟩ st) 0, (txt : Str).length ≠ 0, (wd : Str).length ≠ 0, (txt ++ wd : Str).length <= sizeLine, gI U.W WL kv kt (tk+1576) (N+884) xs n (.str wd wt), Ac pw U.W (.builtin "int.__eq__" ⟨[.int (Int.fmod kv (3)) (tk+1574), .int (1) (tk+1575)], []⟩) (tk+1576) (N+884) [] [] [] (.bool false) 0] := by
 obtain ⟨b, _⟩ := U; cases b <;> kernel_rfl
theorem Q4 (L it WL n ta tb tc td : Nat) (xs : List Value) (kv : Int) (kt : Nat) (txt : Str) (xt : Nat) (sv : Value) (wt : Nat) (c1 c2 : Nat) : Ev 340 U.W [L, WL] 2 N tk [.u ⟨.str ⟨#[c1, c2]⟩ wt, 0, [1], [], []⟩, .u ⟨.ref (N+884), 0, [], [], [⟨.type "str_ascii_iterator", none, .fields #[.str ⟨#[c1, c2]⟩ wt, .int (0) 0], #[]⟩]⟩] [B2 U.P WL ta tb tc td (.str txt xt) (.int kv kt) sv, A9 xs n] 150 (cond U.b2 (x2 0x55573333030304440405a055533330303080555333303030031fef00fef22211) (x2 0x55573333030304440405a055533330303080555333303030303033031fef00fef22211)) (Ar U.P L it) .base (F7 U.P L) [0, 1, 3] (.fin (.ret (.ref (N+884+1)))) (om [B2 U.P WL ta tb tc td (.str txt xt) (.int kv kt) sv, A9 xs n, A9 [.str ⟨#[c2]⟩ (tk+1576)] 1]) 5 6
  [Cj ⟨#[32, 34, 92, 39, 35]⟩ ⟨#[c2]⟩ = true, Cj ⟨#[32, 34, 92, 39, 35]⟩ ⟨#[c1]⟩ = false, Ac pw U.W (.builtin "str.__iter__" ⟨[.str ⟨#[c1, c2]⟩ wt], []⟩) (tk+1573) (N+884) [] [] [⟨.type "str_ascii_iterator", none, .fields #[.str ⟨#[c1, c2]⟩ wt, .int (0) 0], #[]⟩] (.ref (N+884)) 0, gI U.W WL kv kt (tk+1573) (N+884) xs n (.str ⟨#[c1, c2]⟩ wt)] := by
 obtain ⟨b, _, b2⟩ := U; cases b <;> cases b2 <;> kernel_rfl
theorem Lj (L it WL n ta tb tc td : Nat) (xs : List Value) (kv : Int) (kt : Nat) (txt : Str) (xt wt sp st : Nat) (c1 c2 : Nat) (jn : Str) : Ev 340 U.W [L, WL] 2 N tk [.u ⟨.bool true, 0, [], [], []⟩, .u ⟨.str ⟨#[c1, c2]⟩ wt, 0, [1], [], []⟩, .u ⟨.ref (N+884), 0, [], [], [⟨.type "str_ascii_iterator", none, .fields #[.str ⟨#[c1, c2]⟩ wt, .int (0) 0], #[]⟩]⟩, .u ⟨.str jn (tk+1592), 1, [3], [], []⟩, .u ⟨.str ⟨#[sp]⟩ st, 0, [7], [], []⟩] [B2 U.P WL ta tb tc td (.str txt xt) (.int kv kt) (.bool true), A9 xs n] 262 (cond U.b2 (x2 0x11e004fef888001111e03fef05557333303030444040005a0555333303030444040580555333303030032fef01fef2221110fef00000000010011) (x2 0x11e004fef888001111e03fef05557333303030444040005a0555333303030444040580555333303030303033032fef01fef2221110fef00000000010011)) (Ar U.P L it) .base (Sy U.P L) [0, 1] (.fin .next) (om [B2 U.P WL ta tb tc td (.str ((txt ++ jn) ++ ⟨#[sp]⟩) (tk+1601)) (.int kv kt) (.bool true), A9 xs n]) 6 30
  [((txt ++ jn) : Str).length ≠ 0, (⟨#[sp]⟩ : Str).length ≠ 0, ((txt ++ jn) ++ ⟨#[sp]⟩ : Str).length <= sizeLine, Ac pw U.W (.call (.builtin "list.__getitem__") ⟨[.ref (N+884+5), .int (Int.fmod kv (4)) (tk+1600)], []⟩) (tk+1601) (N+884+6) [((N+884+5), (Lc (tk+1595)))] [] [] (.str ⟨#[sp]⟩ st) 0, (txt : Str).length ≠ 0, (jn : Str).length ≠ 0, (txt ++ jn : Str).length <= sizeLine, Ac pw U.W (.builtin "str.join" ⟨[.str ⟨#[]⟩ (tk+1583), .ref (N+884+1)], []⟩) (tk+1592) (N+884+5) [((N+884+1), ⟨.type "list", none, .seq #[.str ⟨#[c1]⟩ (tk+1584), .str ⟨#[92, c2]⟩ (tk+1591)] 2, #[]⟩)] [] [] (.str jn (tk+1592)) 1, Cj ⟨#[32, 34, 92, 39, 35]⟩ ⟨#[c2]⟩ = true, Cj ⟨#[32, 34, 92, 39, 35]⟩ ⟨#[c1]⟩ = false, Ac pw U.W (.builtin "str.__iter__" ⟨[.str ⟨#[c1, c2]⟩ wt], []⟩) (tk+1584) (N+884) [] [] [⟨.type "str_ascii_iterator", none, .fields #[.str ⟨#[c1, c2]⟩ wt, .int (0) 0], #[]⟩] (.ref (N+884)) 0, gI U.W WL kv kt (tk+1584) (N+884) xs n (.str ⟨#[c1, c2]⟩ wt), Ac pw U.W (.builtin "int.__eq__" ⟨[.int (Int.fmod ((Int.fdiv kv (6)) + (Int.fdiv (Int.fmod kv (6)) (5))) (2)) (tk+1581), .int (0) (tk+1582)], []⟩) (tk+1583) (N+884) [] [] [] (.bool true) 0] := by
 obtain ⟨b, _, b2⟩ := U; cases b <;> cases b2 <;> kernel_rfl
noncomputable abbrev Ah5 : Nat := (x2 0x5557333303030005553333030300055533330303000555333303030005553333030300055533330303000555333303030005553333030300055533330303003000fef22211)
noncomputable abbrev Ahm : Nat := (x2 0x5557333303030005553333030300055533330303000555333303030005553333030300055533330303000555333303030005553333030300055533330303030303303000fef22211)
theorem Ct (L it WL n ta tb tc td : Nat) (xs : List Value) (kv : Int) (kt : Nat) (txt : Str) (xt : Nat) (sv : Value) (wt : Nat) : Ev 340 U.W [L, WL] 2 N tk [.u ⟨.str ⟨#[112, 97, 115, 115, 119, 111, 114, 100]⟩ wt, 0, [1], [], []⟩] [B2 U.P WL ta tb tc td (.str txt xt) (.int kv kt) sv, A9 xs n] 301 (cond U.b2 Ah5 Ahm) (Ar U.P L it) .base (F7 U.P L) [0, 1, 3] (.fin (.ret (.ref (N+884+1)))) (om [B2 U.P WL ta tb tc td (.str txt xt) (.int kv kt) sv, A9 xs n, A9 [] 0]) 5 24
  [gI U.W WL kv kt (tk+1573) (N+884) xs n (.str ⟨#[112, 97, 115, 115, 119, 111, 114, 100]⟩ wt)] := by
 obtain ⟨b, _, b2⟩ := U; cases b <;> cases b2 <;> kernel_rfl
theorem Pt (L it WL n ta tb tc td : Nat) (xs : List Value) (kv : Int) (kt : Nat) (txt : Str) (xt : Nat) (sv : Value) (wt : Nat) (c1 c2 : Nat) : Ev 340 U.W [L, WL] 2 N tk [.u ⟨.str ⟨#[c1, c2]⟩ wt, 0, [1], [], []⟩, .u ⟨.ref (N+884), 0, [], [], [⟨.type "str_ascii_iterator", none, .fields #[.str ⟨#[c1, c2]⟩ wt, .int (0) 0], #[]⟩]⟩] [B2 U.P WL ta tb tc td (.str txt xt) (.int kv kt) sv, A9 xs n] 141 (cond U.b2 (x2 0x55573333030308055533330303080555333303030031fef00fef22211) (x2 0x55573333030308055533330303080555333303030303033031fef00fef22211)) (Ar U.P L it) .base (F7 U.P L) [0, 1, 3] (.fin (.ret (.ref (N+884+1)))) (om [B2 U.P WL ta tb tc td (.str txt xt) (.int kv kt) sv, A9 xs n, A9 [] 0]) 5 6
  [Cj ⟨#[32, 34, 92, 39, 35]⟩ ⟨#[c2]⟩ = false, Cj ⟨#[32, 34, 92, 39, 35]⟩ ⟨#[c1]⟩ = false, Ac pw U.W (.builtin "str.__iter__" ⟨[.str ⟨#[c1, c2]⟩ wt], []⟩) (tk+1573) (N+884) [] [] [⟨.type "str_ascii_iterator", none, .fields #[.str ⟨#[c1, c2]⟩ wt, .int (0) 0], #[]⟩] (.ref (N+884)) 0, gI U.W WL kv kt (tk+1573) (N+884) xs n (.str ⟨#[c1, c2]⟩ wt)] := by
 obtain ⟨b, _, b2⟩ := U; cases b <;> cases b2 <;> kernel_rfl
theorem Dc (L it WL n ta tb tc td : Nat) (xs : List Value) (kv : Int) (kt : Nat) (txt : Str) (xt : Nat) (sv : Value) (wt : Nat) : Ev 340 U.W [L, WL] 2 N tk [.u ⟨.str y37 wt, 0, [1], [], []⟩] [B2 U.P WL ta tb tc td (.str txt xt) (.int kv kt) sv, A9 xs n] 275 (cond U.b2 Adi Ad8) (Ar U.P L it) .base (F7 U.P L) [0, 1, 3] (.fin (.ret (.ref (N+884+1)))) (om [B2 U.P WL ta tb tc td (.str txt xt) (.int kv kt) sv, A9 xs n, A9 [] 0]) 5 21
  [gI U.W WL kv kt (tk+1573) (N+884) xs n (.str ⟨#[109, 97, 99, 104, 105, 110, 101]⟩ wt)] := by
 obtain ⟨b, _, b2⟩ := U; cases b <;> cases b2 <;> kernel_rfl
theorem Ez (L it WL n ta tb tc td : Nat) (xs : List Value) (kv : Int) (kt : Nat) (txt : Str) (xt : Nat) (sv : Value) (wt : Nat) : Ev 340 U.W [L, WL] 2 N tk [.u ⟨.str y62 wt, 0, [1], [], []⟩] [B2 U.P WL ta tb tc td (.str txt xt) (.int kv kt) sv, A9 xs n] 223 (cond U.b2 Hx8 Hx9) (Ar U.P L it) .base (F7 U.P L) [0, 1, 3] (.fin (.ret (.ref (N+884+1)))) (om [B2 U.P WL ta tb tc td (.str txt xt) (.int kv kt) sv, A9 xs n, A9 [] 0]) 5 15
  [gI U.W WL kv kt (tk+1573) (N+884) xs n (.str ⟨#[63, 46, 111, 114, 103]⟩ wt)] := by
 obtain ⟨b, _, b2⟩ := U; cases b <;> cases b2 <;> kernel_rfl
theorem Pm (L it WL n ta tb tc td : Nat) (xs : List Value) (kv : Int) (kt : Nat) (txt : Str) (xt : Nat) (sv : Value) (wt : Nat) (c1 c2 : Nat) : Ev 340 U.W [L, WL] 2 N tk [.u ⟨.str ⟨#[c1, c2]⟩ wt, 0, [1], [], []⟩, .u ⟨.ref (N+884), 0, [], [], [⟨.type "str_ascii_iterator", none, .fields #[.str ⟨#[c1, c2]⟩ wt, .int (0) 0], #[]⟩]⟩] [B2 U.P WL ta tb tc td (.str txt xt) (.int kv kt) sv, A9 xs n] 150 (cond U.b2 (x2 0x5557333303030805553333030304440405a0555333303030031fef00fef22211) (x2 0x5557333303030805553333030304440405a0555333303030303033031fef00fef22211)) (Ar U.P L it) .base (F7 U.P L) [0, 1, 3] (.fin (.ret (.ref (N+884+1)))) (om [B2 U.P WL ta tb tc td (.str txt xt) (.int kv kt) sv, A9 xs n, A9 [.str ⟨#[c1]⟩ (tk+1573)] 1]) 5 6
  [Cj ⟨#[32, 34, 92, 39, 35]⟩ ⟨#[c2]⟩ = false, Cj ⟨#[32, 34, 92, 39, 35]⟩ ⟨#[c1]⟩ = true, Ac pw U.W (.builtin "str.__iter__" ⟨[.str ⟨#[c1, c2]⟩ wt], []⟩) (tk+1573) (N+884) [] [] [⟨.type "str_ascii_iterator", none, .fields #[.str ⟨#[c1, c2]⟩ wt, .int (0) 0], #[]⟩] (.ref (N+884)) 0, gI U.W WL kv kt (tk+1573) (N+884) xs n (.str ⟨#[c1, c2]⟩ wt)] := by
 obtain ⟨b, _, b2⟩ := U; cases b <;> cases b2 <;> kernel_rfl
noncomputable abbrev Yj : Nat := (x2 0x11e004fef333001111e0e0e03fef02fef01fef22211110fef00000000010011)
theorem Ia (L it WL n ta tb tc td : Nat) (xs : List Value) (kv : Int) (kt : Nat) (txt : Str) (xt wt sp st : Nat) (wd : Str) (r1 r2 : Str) : Ev 340 U.W [L, WL] 2 N tk [.u ⟨.bool false, 0, [], [], []⟩, .u ⟨.str wd wt, 0, [1], [], []⟩, .u ⟨.str wd wt, 0, [], [], []⟩, .u ⟨.str wd wt, 0, [], [], []⟩, .u ⟨.str ⟨#[sp]⟩ st, 0, [2], [], []⟩] [B2 U.P WL ta tb tc td (.str txt xt) (.int kv kt) (.bool true), A9 xs n] 168 Yj (Ar U.P L it) .base (Sy U.P L) [0, 1] (.fin .next) (om [B2 U.P WL ta tb tc td (.str ((txt ++ ((Mr ++ wd) ++ Mr)) ++ ⟨#[sp]⟩) (tk+1599)) (.int kv kt) (.bool true), A9 xs n]) 1 28
  [((txt ++ ((⟨#[34]⟩ ++ wd) ++ ⟨#[34]⟩)) : Str).length ≠ 0, (⟨#[sp]⟩ : Str).length ≠ 0, ((txt ++ ((⟨#[34]⟩ ++ wd) ++ ⟨#[34]⟩)) ++ ⟨#[sp]⟩ : Str).length <= sizeLine, Ac pw U.W (.call (.builtin "list.__getitem__") ⟨[.ref (N+884), .int (Int.fmod kv (4)) (tk+1598)], []⟩) (tk+1599) (N+884+1) [((N+884), (Lc (tk+1593)))] [] [] (.str ⟨#[sp]⟩ st) 0, (txt : Str).length ≠ 0, (((⟨#[34]⟩ ++ wd) ++ ⟨#[34]⟩) : Str).length ≠ 0, (txt ++ ((⟨#[34]⟩ ++ wd) ++ ⟨#[34]⟩) : Str).length <= sizeLine, ((⟨#[34]⟩ ++ wd) : Str).length ≠ 0, (⟨#[34]⟩ : Str).length ≠ 0, ((⟨#[34]⟩ ++ wd) ++ ⟨#[34]⟩ : Str).length <= sizeLine, (⟨#[34]⟩ : Str).length ≠ 0, (wd : Str).length ≠ 0, (⟨#[34]⟩ ++ wd : Str).length <= sizeLine, Ac pw U.W (.builtin "str.replace" ⟨[.str wd wt, .str ⟨#[34]⟩ (tk+1586), .str ⟨#[92, 34]⟩ (tk+1587)], []⟩) (tk+1588) (N+884) [] [] [] (.str wd wt) 0, Ac pw U.W (.builtin "str.replace" ⟨[.str wd wt, .str ⟨#[92]⟩ (tk+1584), .str ⟨#[92, 92]⟩ (tk+1585)], []⟩) (tk+1586) (N+884) [] [] [] (.str wd wt) 0, gI U.W WL kv kt (tk+1584) (N+884) xs n (.str wd wt), Ac pw U.W (.builtin "int.__eq__" ⟨[.int (Int.fmod ((Int.fdiv kv (6)) + (Int.fdiv (Int.fmod kv (6)) (5))) (2)) (tk+1581), .int (0) (tk+1582)], []⟩) (tk+1583) (N+884) [] [] [] (.bool false) 0] := by
 obtain ⟨b, _⟩ := U; cases b <;> kernel_rfl
theorem Qb (L it WL n ta tb tc td : Nat) (xs : List Value) (kv : Int) (kt : Nat) (txt : Str) (xt : Nat) (sv : Value) (wt : Nat) (c1 c2 : Nat) : Ev 340 U.W [L, WL] 2 N tk [.u ⟨.str ⟨#[c1, c2]⟩ wt, 0, [1], [], []⟩, .u ⟨.ref (N+884), 0, [], [], [⟨.type "str_ascii_iterator", none, .fields #[.str ⟨#[c1, c2]⟩ wt, .int (0) 0], #[]⟩]⟩] [B2 U.P WL ta tb tc td (.str txt xt) (.int kv kt) sv, A9 xs n] 159 (cond U.b2 (x2 0x55573333030304440405a05553333030304440405a0555333303030031fef00fef22211) (x2 0x55573333030304440405a05553333030304440405a0555333303030303033031fef00fef22211)) (Ar U.P L it) .base (F7 U.P L) [0, 1, 3] (.fin (.ret (.ref (N+884+1)))) (om [B2 U.P WL ta tb tc td (.str txt xt) (.int kv kt) sv, A9 xs n, A9 [.str ⟨#[c1]⟩ (tk+1573), .str ⟨#[c2]⟩ (tk+1576)] 2]) 5 6
  [Cj ⟨#[32, 34, 92, 39, 35]⟩ ⟨#[c2]⟩ = true, Cj ⟨#[32, 34, 92, 39, 35]⟩ ⟨#[c1]⟩ = true, Ac pw U.W (.builtin "str.__iter__" ⟨[.str ⟨#[c1, c2]⟩ wt], []⟩) (tk+1573) (N+884) [] [] [⟨.type "str_ascii_iterator", none, .fields #[.str ⟨#[c1, c2]⟩ wt, .int (0) 0], #[]⟩] (.ref (N+884)) 0, gI U.W WL kv kt (tk+1573) (N+884) xs n (.str ⟨#[c1, c2]⟩ wt)] := by
 obtain ⟨b, _, b2⟩ := U; cases b <;> cases b2 <;> kernel_rfl
theorem Lr (L it WL n ta tb tc td : Nat) (xs : List Value) (kv : Int) (kt : Nat) (txt : Str) (xt wt sp st : Nat) (c1 c2 : Nat) (jn : Str) : Ev 340 U.W [L, WL] 2 N tk [.u ⟨.bool true, 0, [], [], []⟩, .u ⟨.str ⟨#[c1, c2]⟩ wt, 0, [1], [], []⟩, .u ⟨.ref (N+884), 0, [], [], [⟨.type "str_ascii_iterator", none, .fields #[.str ⟨#[c1, c2]⟩ wt, .int (0) 0], #[]⟩]⟩, .u ⟨.str jn (tk+1594), 1, [3], [], []⟩, .u ⟨.str ⟨#[sp]⟩ st, 0, [7], [], []⟩] [B2 U.P WL ta tb tc td (.str txt xt) (.int kv kt) (.bool true), A9 xs n] 269 (cond U.b2 (x2 0x11e004fef888001111e03fef05557333303030444040005a0555333303030444040005a0555333303030032fef01fef2221110fef00000000010011) (x2 0x11e004fef888001111e03fef05557333303030444040005a0555333303030444040005a0555333303030303033032fef01fef2221110fef00000000010011)) (Ar U.P L it) .base (Sy U.P L) [0, 1] (.fin .next) (om [B2 U.P WL ta tb tc td (.str ((txt ++ jn) ++ ⟨#[sp]⟩) (tk+1603)) (.int kv kt) (.bool true), A9 xs n]) 6 32
  [((txt ++ jn) : Str).length ≠ 0, (⟨#[sp]⟩ : Str).length ≠ 0, ((txt ++ jn) ++ ⟨#[sp]⟩ : Str).length <= sizeLine, Ac pw U.W (.call (.builtin "list.__getitem__") ⟨[.ref (N+884+5), .int (Int.fmod kv (4)) (tk+1602)], []⟩) (tk+1603) (N+884+6) [((N+884+5), (Lc (tk+1597)))] [] [] (.str ⟨#[sp]⟩ st) 0, (txt : Str).length ≠ 0, (jn : Str).length ≠ 0, (txt ++ jn : Str).length <= sizeLine, Ac pw U.W (.builtin "str.join" ⟨[.str ⟨#[]⟩ (tk+1583), .ref (N+884+1)], []⟩) (tk+1594) (N+884+5) [((N+884+1), ⟨.type "list", none, .seq #[.str ⟨#[92, c1]⟩ (tk+1588), .str ⟨#[92, c2]⟩ (tk+1593)] 2, #[]⟩)] [] [] (.str jn (tk+1594)) 1, Cj ⟨#[32, 34, 92, 39, 35]⟩ ⟨#[c2]⟩ = true, Cj ⟨#[32, 34, 92, 39, 35]⟩ ⟨#[c1]⟩ = true, Ac pw U.W (.builtin "str.__iter__" ⟨[.str ⟨#[c1, c2]⟩ wt], []⟩) (tk+1584) (N+884) [] [] [⟨.type "str_ascii_iterator", none, .fields #[.str ⟨#[c1, c2]⟩ wt, .int (0) 0], #[]⟩] (.ref (N+884)) 0, gI U.W WL kv kt (tk+1584) (N+884) xs n (.str ⟨#[c1, c2]⟩ wt), Ac pw U.W (.builtin "int.__eq__" ⟨[.int (Int.fmod ((Int.fdiv kv (6)) + (Int.fdiv (Int.fmod kv (6)) (5))) (2)) (tk+1581), .int (0) (tk+1582)], []⟩) (tk+1583) (N+884) [] [] [] (.bool true) 0] := by
 obtain ⟨b, _, b2⟩ := U; cases b <;> cases b2 <;> kernel_rfl
theorem Ey (L it WL n ta tb tc td : Nat) (xs : List Value) (kv : Int) (kt : Nat) (txt : Str) (xt : Nat) (sv : Value) (wt : Nat) : Ev 340 U.W [L, WL] 2 N tk [.u ⟨.str Lh wt, 0, [1], [], []⟩] [B2 U.P WL ta tb tc td (.str txt xt) (.int kv kt) sv, A9 xs n] 223 (cond U.b2 Hx8 Hx9) (Ar U.P L it) .base (F7 U.P L) [0, 1, 3] (.fin (.ret (.ref (N+884+1)))) (om [B2 U.P WL ta tb tc td (.str txt xt) (.int kv kt) sv, A9 xs n, A9 [] 0]) 5 15
  [gI U.W WL kv kt (tk+1573) (N+884) xs n (.str ⟨#[119, 119, 119, 46, 42]⟩ wt)] := by
 obtain ⟨b, _, b2⟩ := U; cases b <;> cases b2 <;> kernel_rfl
theorem Da (L it WL n ta tb tc td : Nat) (xs : List Value) (kv : Int) (kt : Nat) (txt : Str) (xt : Nat) (sv : Value) (wt : Nat) : Ev 340 U.W [L, WL] 2 N tk [.u ⟨.str y28 wt, 0, [1], [], []⟩] [B2 U.P WL ta tb tc td (.str txt xt) (.int kv kt) sv, A9 xs n] 301 (cond U.b2 Ah5 Ahm) (Ar U.P L it) .base (F7 U.P L) [0, 1, 3] (.fin (.ret (.ref (N+884+1)))) (om [B2 U.P WL ta tb tc td (.str txt xt) (.int kv kt) sv, A9 xs n, A9 [] 0]) 5 24
  [gI U.W WL kv kt (tk+1573) (N+884) xs n (.str ⟨#[91, 97, 98, 93, 46, 111, 114, 103]⟩ wt)] := by
 obtain ⟨b, _, b2⟩ := U; cases b <;> cases b2 <;> kernel_rfl
theorem Np (L it WL n ta tb tc td : Nat) (xs : List Value) (kv : Int) (kt : Nat) (txt : Str) (xt wt sp st : Nat) (wd : Str) (r1 r2 : Str) : Ev 340 U.W [L, WL] 2 N tk [.u ⟨.bool false, 0, [], [], []⟩, .u ⟨.str wd wt, 0, [1], [], []⟩, .u ⟨.str wd wt, 0, [], [], []⟩, .u ⟨.str r1 (tk+1588), 1, [], [], []⟩, .u ⟨.str ⟨#[sp]⟩ st, 0, [2], [], []⟩] [B2 U.P WL ta tb tc td (.str txt xt) (.int kv kt) (.bool true), A9 xs n] 168 Yj (Ar U.P L it) .base (Sy U.P L) [0, 1] (.fin .next) (om [B2 U.P WL ta tb tc td (.str ((txt ++ ((Mr ++ r1) ++ Mr)) ++ ⟨#[sp]⟩) (tk+1600)) (.int kv kt) (.bool true), A9 xs n]) 1 29
  [((txt ++ ((⟨#[34]⟩ ++ r1) ++ ⟨#[34]⟩)) : Str).length ≠ 0, (⟨#[sp]⟩ : Str).length ≠ 0, ((txt ++ ((⟨#[34]⟩ ++ r1) ++ ⟨#[34]⟩)) ++ ⟨#[sp]⟩ : Str).length <= sizeLine, Ac pw U.W (.call (.builtin "list.__getitem__") ⟨[.ref (N+884), .int (Int.fmod kv (4)) (tk+1599)], []⟩) (tk+1600) (N+884+1) [((N+884), (Lc (tk+1594)))] [] [] (.str ⟨#[sp]⟩ st) 0, (txt : Str).length ≠ 0, (((⟨#[34]⟩ ++ r1) ++ ⟨#[34]⟩) : Str).length ≠ 0, (txt ++ ((⟨#[34]⟩ ++ r1) ++ ⟨#[34]⟩) : Str).length <= sizeLine, ((⟨#[34]⟩ ++ r1) : Str).length ≠ 0, (⟨#[34]⟩ : Str).length ≠ 0, ((⟨#[34]⟩ ++ r1) ++ ⟨#[34]⟩ : Str).length <= sizeLine, (⟨#[34]⟩ : Str).length ≠ 0, (r1 : Str).length ≠ 0, (⟨#[34]⟩ ++ r1 : Str).length <= sizeLine, Ac pw U.W (.builtin "str.replace" ⟨[.str wd wt, .str ⟨#[34]⟩ (tk+1586), .str ⟨#[92, 34]⟩ (tk+1587)], []⟩) (tk+1588) (N+884) [] [] [] (.str r1 (tk+1588)) 1, Ac pw U.W (.builtin "str.replace" ⟨[.str wd wt, .str ⟨#[92]⟩ (tk+1584), .str ⟨#[92, 92]⟩ (tk+1585)], []⟩) (tk+1586) (N+884) [] [] [] (.str wd wt) 0, gI U.W WL kv kt (tk+1584) (N+884) xs n (.str wd wt), Ac pw U.W (.builtin "int.__eq__" ⟨[.int (Int.fmod ((Int.fdiv kv (6)) + (Int.fdiv (Int.fmod kv (6)) (5))) (2)) (tk+1581), .int (0) (tk+1582)], []⟩) (tk+1583) (N+884) [] [] [] (.bool false) 0] := by
 obtain ⟨b, _⟩ := U; cases b <;> kernel_rfl
theorem G1 (L it WL n ta tb tc td : Nat) (xs : List Value) (kv : Int) (kt : Nat) (txt : Str) (xt : Nat) (sv : Value) (wt : Nat) : Ev 340 U.W [L, WL] 2 N tk [.u ⟨.str E1 wt, 0, [1], [], []⟩] [B2 U.P WL ta tb tc td (.str txt xt) (.int kv kt) sv, A9 xs n] 223 (cond U.b2 Hx8 Hx9) (Ar U.P L it) .base (F7 U.P L) [0, 1, 3] (.fin (.ret (.ref (N+884+1)))) (om [B2 U.P WL ta tb tc td (.str txt xt) (.int kv kt) sv, A9 xs n, A9 [] 0]) 5 15
  [gI U.W WL kv kt (tk+1573) (N+884) xs n (.str ⟨#[91, 33, 97, 93, 42]⟩ wt)] := by
 obtain ⟨b, _, b2⟩ := U; cases b <;> cases b2 <;> kernel_rfl
theorem D8 (L it WL n ta tb tc td : Nat) (xs : List Value) (kv : Int) (kt : Nat) (txt : Str) (xt : Nat) (sv : Value) (wt : Nat) : Ev 340 U.W [L, WL] 2 N tk [.u ⟨.str y63 wt, 0, [1], [], []⟩] [B2 U.P WL ta tb tc td (.str txt xt) (.int kv kt) sv, A9 xs n] 275 (cond U.b2 Adi Ad8) (Ar U.P L it) .base (F7 U.P L) [0, 1, 3] (.fin (.ret (.ref (N+884+1)))) (om [B2 U.P WL ta tb tc td (.str txt xt) (.int kv kt) sv, A9 xs n, A9 [] 0]) 5 21
  [gI U.W WL kv kt (tk+1573) (N+884) xs n (.str ⟨#[100, 101, 102, 97, 117, 108, 116]⟩ wt)] := by
 obtain ⟨b, _, b2⟩ := U; cases b <;> cases b2 <;> kernel_rfl
theorem Db (L it WL n ta tb tc td : Nat) (xs : List Value) (kv : Int) (kt : Nat) (txt : Str) (xt : Nat) (sv : Value) (wt : Nat) : Ev 340 U.W [L, WL] 2 N tk [.u ⟨.str y64 wt, 0, [1], [], []⟩] [B2 U.P WL ta tb tc td (.str txt xt) (.int kv kt) sv, A9 xs n] 284 (cond U.b2 (x2 0x555733330303000555333303030005553333030300055533330303044404050055533330303000555333303030005553333030300055533330303003000fef22211) (x2 0x555733330303000555333303030005553333030300055533330303044404050055533330303000555333303030005553333030300055533330303030303303000fef22211)) (Ar U.P L it) .base (F7 U.P L) [0, 1, 3] (.fin (.ret (.ref (N+884+1)))) (om [B2 U.P WL ta tb tc td (.str txt xt) (.int kv kt) sv, A9 xs n, A9 [.str ⟨#[32]⟩ (tk+1582)] 1]) 5 21
  [gI U.W WL kv kt (tk+1573) (N+884) xs n (.str ⟨#[97, 110, 121, 32, 111, 110, 101]⟩ wt)] := by
 obtain ⟨b, _, b2⟩ := U; cases b <;> cases b2 <;> kernel_rfl
theorem L7 (L it WL n ta tb tc td : Nat) (xs : List Value) (kv : Int) (kt : Nat) (txt : Str) (xt : Nat) (sv : Value) (wt : Nat) : Ev 340 U.W [L, WL] 2 N tk [.u ⟨.str Sx wt, 0, [1], [], []⟩] [B2 U.P WL ta tb tc td (.str txt xt) (.int kv kt) sv, A9 xs n] 119 (cond U.b2 (x2 0x55573333030300055533330303003000fef22211) (x2 0x55573333030300055533330303030303303000fef22211)) (Ar U.P L it) .base (F7 U.P L) [0, 1, 3] (.fin (.ret (.ref (N+884+1)))) (om [B2 U.P WL ta tb tc td (.str txt xt) (.int kv kt) sv, A9 xs n, A9 [] 0]) 5 3
  [gI U.W WL kv kt (tk+1573) (N+884) xs n (.str ⟨#[120]⟩ wt)] := by
 obtain ⟨b, _, b2⟩ := U; cases b <;> cases b2 <;> kernel_rfl
theorem Lm (L it WL n ta tb tc td : Nat) (xs : List Value) (kv : Int) (kt : Nat) (txt : Str) (xt wt sp st : Nat) (c1 c2 : Nat) (jn : Str) : Ev 340 U.W [L, WL] 2 N tk [.u ⟨.bool true, 0, [], [], []⟩, .u ⟨.str ⟨#[c1, c2]⟩ wt, 0, [1], [], []⟩, .u ⟨.ref (N+884), 0, [], [], [⟨.type "str_ascii_iterator", none, .fields #[.str ⟨#[c1, c2]⟩ wt, .int (0) 0], #[]⟩]⟩, .u ⟨.str jn (tk+1592), 1, [3], [], []⟩, .u ⟨.str ⟨#[sp]⟩ st, 0, [7], [], []⟩] [B2 U.P WL ta tb tc td (.str txt xt) (.int kv kt) (.bool true), A9 xs n] 262 (cond U.b2 (x2 0x11e004fef888001111e03fef05557333303030444040580555333303030444040005a0555333303030032fef01fef2221110fef00000000010011) (x2 0x11e004fef888001111e03fef05557333303030444040580555333303030444040005a0555333303030303033032fef01fef2221110fef00000000010011)) (Ar U.P L it) .base (Sy U.P L) [0, 1] (.fin .next) (om [B2 U.P WL ta tb tc td (.str ((txt ++ jn) ++ ⟨#[sp]⟩) (tk+1601)) (.int kv kt) (.bool true), A9 xs n]) 6 30
  [((txt ++ jn) : Str).length ≠ 0, (⟨#[sp]⟩ : Str).length ≠ 0, ((txt ++ jn) ++ ⟨#[sp]⟩ : Str).length <= sizeLine, Ac pw U.W (.call (.builtin "list.__getitem__") ⟨[.ref (N+884+5), .int (Int.fmod kv (4)) (tk+1600)], []⟩) (tk+1601) (N+884+6) [((N+884+5), (Lc (tk+1595)))] [] [] (.str ⟨#[sp]⟩ st) 0, (txt : Str).length ≠ 0, (jn : Str).length ≠ 0, (txt ++ jn : Str).length <= sizeLine, Ac pw U.W (.builtin "str.join" ⟨[.str ⟨#[]⟩ (tk+1583), .ref (N+884+1)], []⟩) (tk+1592) (N+884+5) [((N+884+1), ⟨.type "list", none, .seq #[.str ⟨#[92, c1]⟩ (tk+1588), .str ⟨#[c2]⟩ (tk+1589)] 2, #[]⟩)] [] [] (.str jn (tk+1592)) 1, Cj ⟨#[32, 34, 92, 39, 35]⟩ ⟨#[c2]⟩ = false, Cj ⟨#[32, 34, 92, 39, 35]⟩ ⟨#[c1]⟩ = true, Ac pw U.W (.builtin "str.__iter__" ⟨[.str ⟨#[c1, c2]⟩ wt], []⟩) (tk+1584) (N+884) [] [] [⟨.type "str_ascii_iterator", none, .fields #[.str ⟨#[c1, c2]⟩ wt, .int (0) 0], #[]⟩] (.ref (N+884)) 0, gI U.W WL kv kt (tk+1584) (N+884) xs n (.str ⟨#[c1, c2]⟩ wt), Ac pw U.W (.builtin "int.__eq__" ⟨[.int (Int.fmod ((Int.fdiv kv (6)) + (Int.fdiv (Int.fmod kv (6)) (5))) (2)) (tk+1581), .int (0) (tk+1582)], []⟩) (tk+1583) (N+884) [] [] [] (.bool true) 0] := by
 obtain ⟨b, _, b2⟩ := U; cases b <;> cases b2 <;> kernel_rfl
theorem Jq (L it WL n ta tb tc td : Nat) (xs : List Value) (kv : Int) (kt : Nat) (txt : Str) (xt : Nat) (sv : Value) (wt : Nat) : Ev 340 U.W [L, WL] 2 N tk [.u ⟨.str Li wt, 0, [1], [], []⟩] [B2 U.P WL ta tb tc td (.str txt xt) (.int kv kt) sv, A9 xs n] 171 (cond U.b2 (x2 0x555733330303000555333303030005553333030300055533330303003000fef22211) (x2 0x555733330303000555333303030005553333030300055533330303030303303000fef22211)) (Ar U.P L it) .base (F7 U.P L) [0, 1, 3] (.fin (.ret (.ref (N+884+1)))) (om [B2 U.P WL ta tb tc td (.str txt xt) (.int kv kt) sv, A9 xs n, A9 [] 0]) 5 9
  [gI U.W WL kv kt (tk+1573) (N+884) xs n (.str ⟨#[42, 97, 42]⟩ wt)] := by
 obtain ⟨b, _, b2⟩ := U; cases b <;> cases b2 <;> kernel_rfl
theorem Mh (L it WL n ta tb tc td : Nat) (xs : List Value) (kv : Int) (kt : Nat) (txt : Str) (xt wt sp st : Nat) (wd : Str) (r1 r2 : Str) : Ev 340 U.W [L, WL] 2 N tk [.u ⟨.bool false, 0, [], [], []⟩, .u ⟨.str wd wt, 0, [1], [], []⟩, .u ⟨.str r1 (tk+1586), 1, [], [], []⟩, .u ⟨.str r1 (tk+1586), 0, [], [], []⟩, .u ⟨.str ⟨#[sp]⟩ st, 0, [2], [], []⟩] [B2 U.P WL ta tb tc td (.str txt xt) (.int kv kt) (.bool true), A9 xs n] 168 Yj (Ar U.P L it) .base (Sy U.P L) [0, 1] (.fin .next) (om [B2 U.P WL ta tb tc td (.str ((txt ++ ((Mr ++ r1) ++ Mr)) ++ ⟨#[sp]⟩) (tk+1600)) (.int kv kt) (.bool true), A9 xs n]) 1 29
  [((txt ++ ((⟨#[34]⟩ ++ r1) ++ ⟨#[34]⟩)) : Str).length ≠ 0, (⟨#[sp]⟩ : Str).length ≠ 0, ((txt ++ ((⟨#[34]⟩ ++ r1) ++ ⟨#[34]⟩)) ++ ⟨#[sp]⟩ : Str).length <= sizeLine, Ac pw U.W (.call (.builtin "list.__getitem__") ⟨[.ref (N+884), .int (Int.fmod kv (4)) (tk+1599)], []⟩) (tk+1600) (N+884+1) [((N+884), (Lc (tk+1594)))] [] [] (.str ⟨#[sp]⟩ st) 0, (txt : Str).length ≠ 0, (((⟨#[34]⟩ ++ r1) ++ ⟨#[34]⟩) : Str).length ≠ 0, (txt ++ ((⟨#[34]⟩ ++ r1) ++ ⟨#[34]⟩) : Str).length <= sizeLine, ((⟨#[34]⟩ ++ r1) : Str).length ≠ 0, (⟨#[34]⟩ : Str).length ≠ 0, ((⟨#[34]⟩ ++ r1) ++ ⟨#[34]⟩ : Str).length <= sizeLine, (⟨#[34]⟩ : Str).length ≠ 0, (r1 : Str).length ≠ 0, (⟨#[34]⟩ ++ r1 : Str).length <= sizeLine, Ac pw U.W (.builtin "str.replace" ⟨[.str r1 (tk+1586), .str ⟨#[34]⟩ (tk+1587), .str ⟨#[92, 34]⟩ (tk+1588)], []⟩) (tk+1589) (N+884) [] [] [] (.str r1 (tk+1586)) 0, Ac pw U.W (.builtin "str.replace" ⟨[.str wd wt, .str ⟨#[92]⟩ (tk+1584), .str ⟨#[92, 92]⟩ (tk+1585)], []⟩) (tk+1586) (N+884) [] [] [] (.str r1 (tk+1586)) 1, gI U.W WL kv kt (tk+1584) (N+884) xs n (.str wd wt), Ac pw U.W (.builtin "int.__eq__" ⟨[.int (Int.fmod ((Int.fdiv kv (6)) + (Int.fdiv (Int.fmod kv (6)) (5))) (2)) (tk+1581), .int (0) (tk+1582)], []⟩) (tk+1583) (N+884) [] [] [] (.bool false) 0] := by
 obtain ⟨b, _⟩ := U; cases b <;> kernel_rfl
theorem Nr (L it WL n ta tb tc td : Nat) (xs : List Value) (kv : Int) (kt : Nat) (txt : Str) (xt : Nat) (sv : Value) (wt : Nat) : Ev 340 U.W [L, WL] 2 N tk [.u ⟨.str ⟨#[97, 63]⟩ wt, 0, [1], [], []⟩] [B2 U.P WL ta tb tc td (.str txt xt) (.int kv kt) sv, A9 xs n] 145 (cond U.b2 (x2 0x5557333303030005553333030300055533330303003000fef22211) (x2 0x5557333303030005553333030300055533330303030303303000fef22211)) (Ar U.P L it) .base (F7 U.P L) [0, 1, 3] (.fin (.ret (.ref (N+884+1)))) (om [B2 U.P WL ta tb tc td (.str txt xt) (.int kv kt) sv, A9 xs n, A9 [] 0]) 5 6
  [gI U.W WL kv kt (tk+1573) (N+884) xs n (.str ⟨#[97, 63]⟩ wt)] := by
 obtain ⟨b, _, b2⟩ := U; cases b <;> cases b2 <;> kernel_rfl
noncomputable abbrev Me (WL n : Nat) (xs : List Value) : Res := Ay 330 U.W [WL] 1 N tk [.u ⟨.int (23) (tk+1577), 2, [0], [], []⟩] [A9 xs n] 103 Hx4 (.call (.ref 845) ⟨[.ref WL], []⟩) .base (.pure (.again (.call (.ref 845) ⟨[.ref WL], []⟩)))
theorem Aai (WL n : Nat) (xs : List Value) : Ec 330 U.W [WL] 1 N tk [.u ⟨.int (23) (tk+1577), 2, [0], [], []⟩] [A9 xs n] 103 Hx4 (.call (.ref 845) ⟨[.ref WL], []⟩) [1, 3, 0] (.call (Ar U.P (N+884) (N+884+2)) 1) (om [Op U.P WL (tk+1573) (tk+1575) (.str ⟨#[]⟩ (tk+1574)), Bz 0 23, A9 xs n]) 3 7 [Ac pw U.W (.builtin "len" ⟨[.ref WL], []⟩) (tk+1576) (N+884+1) [(WL, A9 xs n)] [] [] (.int (23) (tk+1577)) 2] := by
 obtain ⟨b, _⟩ := U; cases b <;> kernel_rfl
theorem Mc (L it WL n ta tb tc td : Nat) (xs : List Value) (kv : Int) (kt : Nat) (txt : Str) (xt wt sp st : Nat) (wd : Str) (r1 r2 : Str) : Ev 340 U.W [L, WL] 2 N tk [.u ⟨.bool false, 0, [], [], []⟩, .u ⟨.str wd wt, 0, [1], [], []⟩, .u ⟨.str r1 (tk+1586), 1, [], [], []⟩, .u ⟨.str r2 (tk+1589), 1, [], [], []⟩, .u ⟨.str ⟨#[sp]⟩ st, 0, [2], [], []⟩] [B2 U.P WL ta tb tc td (.str txt xt) (.int kv kt) (.bool true), A9 xs n] 168 Yj (Ar U.P L it) .base (Sy U.P L) [0, 1] (.fin .next) (om [B2 U.P WL ta tb tc td (.str ((txt ++ ((Mr ++ r2) ++ Mr)) ++ ⟨#[sp]⟩) (tk+1601)) (.int kv kt) (.bool true), A9 xs n]) 1 30
  [((txt ++ ((⟨#[34]⟩ ++ r2) ++ ⟨#[34]⟩)) : Str).length ≠ 0, (⟨#[sp]⟩ : Str).length ≠ 0, ((txt ++ ((⟨#[34]⟩ ++ r2) ++ ⟨#[34]⟩)) ++ ⟨#[sp]⟩ : Str).length <= sizeLine, Ac pw U.W (.call (.builtin "list.__getitem__") ⟨[.ref (N+884), .int (Int.fmod kv (4)) (tk+1600)], []⟩) (tk+1601) (N+884+1) [((N+884), (Lc (tk+1595)))] [] [] (.str ⟨#[sp]⟩ st) 0, (txt : Str).length ≠ 0, (((⟨#[34]⟩ ++ r2) ++ ⟨#[34]⟩) : Str).length ≠ 0, (txt ++ ((⟨#[34]⟩ ++ r2) ++ ⟨#[34]⟩) : Str).length <= sizeLine, ((⟨#[34]⟩ ++ r2) : Str).length ≠ 0, (⟨#[34]⟩ : Str).length ≠ 0, ((⟨#[34]⟩ ++ r2) ++ ⟨#[34]⟩ : Str).length <= sizeLine, (⟨#[34]⟩ : Str).length ≠ 0, (r2 : Str).length ≠ 0, (⟨#[34]⟩ ++ r2 : Str).length <= sizeLine, Ac pw U.W (.builtin "str.replace" ⟨[.str r1 (tk+1586), .str ⟨#[34]⟩ (tk+1587), .str ⟨#[92, 34]⟩ (tk+1588)], []⟩) (tk+1589) (N+884) [] [] [] (.str r2 (tk+1589)) 1, Ac pw U.W (.builtin "str.replace" ⟨[.str wd wt, .str ⟨#[92]⟩ (tk+1584), .str ⟨#[92, 92]⟩ (tk+1585)], []⟩) (tk+1586) (N+884) [] [] [] (.str r1 (tk+1586)) 1, gI U.W WL kv kt (tk+1584) (N+884) xs n (.str wd wt), Ac pw U.W (.builtin "int.__eq__" ⟨[.int (Int.fmod ((Int.fdiv kv (6)) + (Int.fdiv (Int.fmod kv (6)) (5))) (2)) (tk+1581), .int (0) (tk+1582)], []⟩) (tk+1583) (N+884) [] [] [] (.bool false) 0] := by
 obtain ⟨b, _⟩ := U; cases b <;> kernel_rfl
noncomputable abbrev Mn (WL n : Nat) (xs : List Value) : Res := Ay 330 U.W [WL] 1 N tk [.u ⟨.int (12) (tk+1577), 2, [0], [], []⟩] [A9 xs n] 103 Hx4 (.call (.ref 845) ⟨[.ref WL], []⟩) .base (.pure (.again (.call (.ref 845) ⟨[.ref WL], []⟩)))
theorem Xy (WL n : Nat) (xs : List Value) : Ec 330 U.W [WL] 1 N tk [.u ⟨.int (12) (tk+1577), 2, [0], [], []⟩] [A9 xs n] 103 Hx4 (.call (.ref 845) ⟨[.ref WL], []⟩) [1, 3, 0] (.call (Ar U.P (N+884) (N+884+2)) 1) (om [Op U.P WL (tk+1573) (tk+1575) (.str ⟨#[]⟩ (tk+1574)), Bz 0 12, A9 xs n]) 3 7 [Ac pw U.W (.builtin "len" ⟨[.ref WL], []⟩) (tk+1576) (N+884+1) [(WL, A9 xs n)] [] [] (.int (12) (tk+1577)) 2] := by
 obtain ⟨b, _⟩ := U; cases b <;> kernel_rfl
noncomputable abbrev N0 (WL n : Nat) (xs : List Value) : Res := Ay 330 U.W [WL] 1 N tk [.u ⟨.int (24) (tk+1577), 2, [0], [], []⟩] [A9 xs n] 103 Hx4 (.call (.ref 845) ⟨[.ref WL], []⟩) .base (.pure (.again (.call (.ref 845) ⟨[.ref WL], []⟩)))
theorem Zw (WL n : Nat) (xs : List Value) : Ec 330 U.W [WL] 1 N tk [.u ⟨.int (24) (tk+1577), 2, [0], [], []⟩] [A9 xs n] 103 Hx4 (.call (.ref 845) ⟨[.ref WL], []⟩) [1, 3, 0] (.call (Ar U.P (N+884) (N+884+2)) 1) (om [Op U.P WL (tk+1573) (tk+1575) (.str ⟨#[]⟩ (tk+1574)), Bz 0 24, A9 xs n]) 3 7 [Ac pw U.W (.builtin "len" ⟨[.ref WL], []⟩) (tk+1576) (N+884+1) [(WL, A9 xs n)] [] [] (.int (24) (tk+1577)) 2] := by
 obtain ⟨b, _⟩ := U; cases b <;> kernel_rfl
end
end Mine
section
open PySem.Builtin PySem.Builtin.Str
namespace Mine
section
variable {w : World} {tok sz : Nat}
theorem Ix {a b : Int} {ta tb : Nat} {r : Bool} (h : (a == b) = r) : Ac pw w (.builtin "int.__eq__" ⟨[.int a ta, .int b tb], []⟩) tok sz [] [] [] (.bool r) 0 := by
 intro A s R hA hD hg ht hn hrd hR
 subst ht h
 refine codeAny_builtin F.entry_int_eq ?_
 rw [Around.under_plainId F.slot_int_eq.plain]
 exact gives_int_eq a b ta tb _ _ _ _ _ hR
theorem C6 {x y z : Str} {t u v : Nat} (h : (occurrences x y 0 x.length (x.length + 1)).isEmpty = true) :
  Ac pw w (.builtin "str.replace" ⟨[.str x t, .str y u, .str z v], []⟩) tok sz [] [] [] (.str x t) 0 := by
 intro A s R hA hD hg ht hn hrd hR
 subst ht
 refine codeAny_builtin F.entry_str_replace ?_
 rw [Around.under_plainId F.slot_str_replace.plain]
 refine gives_str_replace x y z t u v (fun hf => ?_) _ _ _ _ _ ?_
 ·rw [h] at hf; cases hf
 ·rw [h]; exact hR
theorem Ep {x y z r : Str} {t u v : Nat} (h : ((occurrences x y 0 x.length (x.length + 1)).isEmpty || (y.length == 0 && z.length == 0)) = false) (hu : (u == 0 || v == 0) = false) (huv : (u == v) = false) (hyz : (y == z) = false)
  (hl : tooLong (x.length + (occurrences x y 0 x.length (x.length + 1)).length * z.length) = false) (hr : glued z (partsBetween x (occurrences x y 0 x.length (x.length + 1)) y.length) = r) (hrl : r.length <= sizeLine) :
  Ac pw w (.builtin "str.replace" ⟨[.str x t, .str y u, .str z v], []⟩) tok sz [] [] [] (.str r tok) 1 := by
 intro A s R hA hD hg ht hn hrd hR
 subst ht hr
 refine codeAny_builtin F.entry_str_replace ?_
 rw [Around.under_plainId F.slot_str_replace.plain]
 refine gives_str_replace x y z t u v (fun hf => ⟨hu, huv, hyz, hl⟩) _ _ _ _ _ ?_
 rw [h]; exact ⟨hrl, hR⟩
theorem Iu {a b r : Str} {a0 t u v n : Nat} (hl : tooLong (#[a, b].foldl (· + ·.length + (⟨#[]⟩ : Str).length) 0) = false) (hr : glued ⟨#[]⟩ [a, b] = r) (hrl : r.length <= sizeLine) :
  Ac pw w (.builtin "str.join" ⟨[.str ⟨#[]⟩ t, .ref a0], []⟩) tok sz [(a0, ⟨.type "list", none, .seq #[.str a u, .str b v] n, #[]⟩)] [] [] (.str r tok) 1 := by
 intro A s R hA hD hg ht hn hrd hR
 have hb := hrd.1
 dsimp only at hb
 subst ht hr
 refine codeAny_builtin F.entry_str_join ?_
 rw [Around.under_plainId F.slot_str_join.plain]
 exact meets_str_join_list ⟨#[]⟩ t a0 [(a, u), (b, v)] hl _ _ _ _ _ ⟨⟨_, hb, rfl, n, rfl⟩, hrl, hR⟩
theorem M9 {x : Str} {t : Nat} (h : x.cps.all (· < 128) = true) :
  Ac pw w (.builtin "str.__iter__" ⟨[.str x t], []⟩) tok sz [] [] [⟨.type "str_ascii_iterator", none, .fields #[.str x t, .int 0 0], #[]⟩] (.ref sz) 0 := by
 intro A s R hA hD hg ht hn hrd hR
 subst ht hn
 refine codeAny_builtin F.entry_str_iter ?_
 rw [Around.under_plainId F.slot_str_iter.plain]
 show wpAny _ _ (newFields (if isExactStr (.str x t) && x.cps.all (· < 128) then "str_ascii_iterator" else "str_iterator") [.str x t, rawInt 0] >>= _) _ _ _
 rw [h]
 exact wpAny_bind (wpAny_newObj_type (wpAny_pure hR))
end
end Mine
end
section
open PySem.Builtin PySem.Builtin.Str
namespace Mine
noncomputable def Bc : List Nat := [97, 32, 34, 92, 39, 35, 55, 98]
noncomputable def Tn (c : Nat) : Bool := c == 32 || c == 34 || c == 92 || c == 39 || c == 35
noncomputable def Ao (u : List Nat) : Bool := u.any Tn
noncomputable def st0 (k : Nat) : Bool := (k / 6 + k % 6 / 5) % 2 == 0
noncomputable def Ew (k : Nat) : Nat := [32, 9, 10, 13].getD (k % 4) 32
noncomputable def Ns (k : Nat) (u : List Nat) : Bool := if Ao u then !st0 k else k % 3 == 1
noncomputable def T0 (u : List Nat) : List (Bool × Nat) := u.map fun c => (Tn c, c)
noncomputable def Wk (u : List Nat) : List (Bool × Nat) := u.map fun c => (c == 34 || c == 92, c)
noncomputable def Gt (k : Nat) (u : List Nat) : W2 := ⟨Ns k u, if Ns k u then Wk u else T0 u, Ew k⟩
noncomputable def M6 : List (List Nat) := [Ax, C8, B7, Co, nX]
noncomputable def Qc : List (List Nat) := [As 0, As 1, As 2, As 3, As 4, As 5, As 6, As 7]
inductive WK (k : Nat) : List Nat -> Prop
 | bare (u) (h : u ∈ M6) : WK k u
 | pat (u) (h : u ∈ Qc) (hk : k % 3 = 1) : WK k u
 | any (hk : st0 k = false) : WK k E0
 | two (c1 c2) (h1 : c1 ∈ Bc) (h2 : c2 ∈ Bc) : WK k [c1, c2]
theorem T6 (k : Nat) : Ew k ∈ [10, 9, 13, 32] := by
 have h : k % 4 < 4 := Nat.mod_lt _ (by decide)
 unfold Ew
 generalize k % 4 = j at h
 match j, h with
 | 0, _ => decide
 | 1, _ => decide
 | 2, _ => decide
 | 3, _ => decide
 | n + 4, h => lia
theorem Ady (k : Nat) (u : List Nat) : (Gt k u).val = u := by
 unfold Gt W2.val
 dsimp only
 cases Ns k u
 ·simp [Cm, T0, List.map_map, Function.comp_def]
 ·simp [Cm, Wk, List.map_map, Function.comp_def]
noncomputable def okB (u : List Nat) : Bool := u.all fun c => decide (1 <= c) && decide (c ≠ 10) && (Tn c || (decide (c ∈ Jm.cps.toList) && decide (c ∉ [10, 9, 13, 32]) && decide (c ∉ [32, 9, 13, 10]) && decide (c ≠ 39) && decide (c ≠ 34) && decide (c ≠ 92)))
noncomputable def okQ (u : List Nat) : Bool := u.all fun c => decide (1 <= c) && decide (c ≠ 10)
theorem Aeo {u : List Nat} (h : okB u = true) : ∀ i ∈ T0 u, P4 i /\ O1 i := by
 intro i hi
 obtain ⟨c, hc, rfl⟩ := List.mem_map.mp hi
 have h1 := List.all_eq_true.mp h c hc
 simp only [Bool.and_eq_true, Bool.or_eq_true, decide_eq_true_eq] at h1
 obtain ⟨⟨a, b⟩, d⟩ := h1
 refine ⟨⟨a, b, fun e => ?_⟩, a, b, fun e => ?_⟩
 ·rcases d with d | d
  ·dsimp only at e; rw [d] at e; cases e
  ·exact ⟨d.1.1.1.1.2, d.2⟩
 ·rcases d with d | d
  ·dsimp only at e; rw [d] at e; cases e
  ·exact ⟨d.1.1.1.1.1, d.1.1.1.2, d.1.1.2, d.1.2, d.2⟩
theorem Adv {u : List Nat} (h : okQ u = true) : ∀ i ∈ Wk u, Aas i /\ Rt i := by
 intro i hi
 obtain ⟨c, hc, rfl⟩ := List.mem_map.mp hi
 have h1 := List.all_eq_true.mp h c hc
 simp only [Bool.and_eq_true, decide_eq_true_eq] at h1
 obtain ⟨a, b⟩ := h1
 have e1 : (c == 34 || c == 92) = false -> c ≠ 34 /\ c ≠ 92 := by
  intro e
  simp at e
  exact e
 have e2 : (c == 34 || c == 92) = true -> c = 34 \/ c = 92 := by
  intro e
  simpa using e
 exact ⟨⟨a, b, e1⟩, by unfold Rt; simp_all⟩
theorem Xb {c1 c2 : Nat} (h1 : c1 ∈ Bc) (h2 : c2 ∈ Bc) : okB [c1, c2] = true := by
 have h : ∀ c1 ∈ Bc, ∀ c2 ∈ Bc, okB [c1, c2] = true := by decide +kernel
 exact h c1 h1 c2 h2
theorem Af8 {k : Nat} {u : List Nat} (h : WK k u) : (Gt k u).ok := by
 have key : u ≠ [] -> u.length <= 8 -> (Ns k u = false -> okB u = true) -> okQ u = true -> (Gt k u).ok := fun a b c d => ⟨by
  unfold Gt
  dsimp only
  cases u with
  | nil => exact (a rfl).elim
  | cons x u => split <;> simp [Wk, T0], T6 k, by
   have : (Gt k u).it.length = u.length := by
    unfold Gt
    dsimp only
    split <;> simp [Wk, T0]
   rw [this]
   exact Nat.le_trans b (by decide), fun e => by
   have e1 : Ns k u = false := e
   unfold Gt
   rw [e1]
   exact Aeo (c e1), fun e => by
   have e1 : Ns k u = true := e
   unfold Gt
   rw [e1]
   exact Adv d⟩
 cases h with
 | bare u h =>
  have f : ∀ u ∈ M6, u ≠ [] /\ u.length <= 8 /\ okB u = true /\ okQ u = true := by decide +kernel
  have g := f u h
  exact key g.1 g.2.1 (fun _ => g.2.2.1) g.2.2.2
 | pat u h hk =>
  have f : ∀ u ∈ Qc, u ≠ [] /\ u.length <= 8 /\ Ao u = false /\ okQ u = true := by decide +kernel
  have g := f u h
  refine key g.1 g.2.1 (fun e => ?_) g.2.2.2
  unfold Ns at e
  rw [g.2.2.1, hk] at e
  cases e
 | any hk =>
  refine key (by decide +kernel) (by decide +kernel) (fun e => ?_) (by decide +kernel)
  unfold Ns at e
  rw [show Ao E0 = true by decide +kernel, hk] at e
  cases e
 | two c1 c2 h1 h2 =>
  have f : ∀ c1 ∈ Bc, ∀ c2 ∈ Bc, okQ [c1, c2] = true := by decide +kernel
  exact key (by simp) (by simp) (fun _ => Xb h1 h2) (f c1 h1 c2 h2)
noncomputable def Nw (e : Ent) : Prop := e.k < 8 /\ e.c1 ∈ Bc /\ e.c2 ∈ Bc /\ e.c3 ∈ Bc /\ e.c4 ∈ Bc
theorem Nq {i : Nat} (h : i < 8) : pc i ∈ Bc := by
 match i, h with
 | 0, _ => decide
 | 1, _ => decide
 | 2, _ => decide
 | 3, _ => decide
 | 4, _ => decide
 | 5, _ => decide
 | 6, _ => decide
 | 7, _ => decide
 | n + 8, h => lia
theorem O9 (x : Int) : ix x < 8 := by
 unfold ix
 rw [Int.fmod_eq_emod_of_nonneg _ (by decide)]
 lia
theorem Vd (x : Int) : Nw (B1 x) := ⟨O9 _, Nq (O9 _), Nq (O9 _), Nq (O9 _), Nq (O9 _)⟩
theorem Aa1 {k : Nat} (h : k < 8) : As k ∈ Qc := by
 match k, h with
 | 0, _ => decide
 | 1, _ => decide
 | 2, _ => decide
 | 3, _ => decide
 | 4, _ => decide
 | 5, _ => decide
 | 6, _ => decide
 | 7, _ => decide
 | n + 8, h => lia
theorem Ri : ∀ (es : List Ent) (j : Nat), (∀ e ∈ es, Nw e) -> ∀ k u, (es.flatMap Az)[k]? = some u -> WK (6 * j + k) u
 | [], j, h, k, u, e => by simp at e
 | a :: es, j, h, k, u, e => by
  have ha := h a (.head _)
  rw [List.flatMap_cons] at e
  match k, e with
  | 0, e =>
   obtain rfl : Ax = u := by simpa [Az] using e
   exact .bare _ (by decide)
  | 1, e =>
   obtain rfl : As a.k = u := by simpa [Az] using e
   exact .pat _ (Aa1 ha.1) (by lia)
  | 2, e =>
   obtain rfl : C8 = u := by simpa [Az] using e
   exact .bare _ (by decide)
  | 3, e =>
   obtain rfl : [a.c1, a.c2] = u := by simpa [Az] using e
   exact .two _ _ ha.2.1 ha.2.2.1
  | 4, e =>
   obtain rfl : B7 = u := by simpa [Az] using e
   exact .bare _ (by decide)
  | 5, e =>
   obtain rfl : [a.c3, a.c4] = u := by simpa [Az] using e
   exact .two _ _ ha.2.2.2.1 ha.2.2.2.2
  | k + 6, e =>
   have e' : (es.flatMap Az)[k]? = some u := by simpa [Az] using e
   have := Ri es (j + 1) (fun e h' => h e (.tail _ h')) k u e'
   have h6 : 6 * (j + 1) + k = 6 * j + (k + 6) := by lia
   exact h6 ▸ this
theorem P3 {es : List Ent} (h : ∀ e ∈ es, Nw e) (h2 : 2 <= es.length) (h5 : es.length <= 5) {k : Nat} {u : List Nat} (e : (Aq es)[k]? = some u) : WK k u := by
 unfold Aq at e
 have hf : ∀ l : List Ent, (l.flatMap Az).length = 6 * l.length := by
  intro l
  induction l with
  | nil => rfl
  | cons a l ih => simp [Az, ih]; lia
 by_cases hk : k < 6 * es.length
 ·rw [List.getElem?_append_left (by rw [hf]; exact hk)] at e
  have := Ri es 0 h k u e
  simpa using this
 ·rw [List.getElem?_append_right (by rw [hf]; lia), hf] at e
  by_cases ho : es.length % 2 = 1
  ·rw [if_pos ho] at e
   obtain ⟨j, rfl⟩ : ∃ j, k = 6 * es.length + j := ⟨k - 6 * es.length, by lia⟩
   rw [Nat.add_sub_cancel_left] at e
   have hl : es.length = 3 \/ es.length = 5 := by lia
   match j, e with
   | 0, e =>
    obtain rfl : Co = u := by simpa [Ef] using e
    exact .bare _ (by decide)
   | 1, e =>
    obtain rfl : C8 = u := by simpa [Ef] using e
    exact .bare _ (by decide)
   | 2, e =>
    obtain rfl : E0 = u := by simpa [Ef] using e
    exact .any (by rcases hl with hl | hl <;> rw [hl] <;> decide)
   | 3, e =>
    obtain rfl : B7 = u := by simpa [Ef] using e
    exact .bare _ (by decide)
   | 4, e =>
    obtain rfl : nX = u := by simpa [Ef] using e
    exact .bare _ (by decide)
   | j + 5, e => simp [Ef] at e
  ·rw [if_neg ho] at e
   simp at e
noncomputable def Jz (u : List Nat) : List Nat := u.flatMap fun c => if c == 92 then [92, 92] else [c]
noncomputable def Vf (u : List Nat) : List Nat := u.flatMap fun c => if c == 34 then [92, 34] else [c]
noncomputable def has (n : Nat) (u : List Nat) : Bool := u.any (· == n)
theorem Anu {c1 c2 : Nat} (h1 : c1 ∈ Bc) (h2 : c2 ∈ Bc) : (occurrences ⟨#[c1, c2]⟩ ⟨#[92]⟩ 0 2 3).isEmpty = !has 92 [c1, c2] := by
 have h : ∀ c1 ∈ Bc, ∀ c2 ∈ Bc, (occurrences ⟨#[c1, c2]⟩ ⟨#[92]⟩ 0 2 3).isEmpty = !has 92 [c1, c2] := by decide +kernel
 exact h c1 h1 c2 h2
noncomputable def Ak4 (c1 c2 : Nat) : Bool :=
 let x : Str := ⟨⟨[c1, c2]⟩⟩
 let o92 := occurrences x ⟨#[92]⟩ 0 x.length (x.length + 1)
 let r1 : Str := ⟨⟨Jz [c1, c2]⟩⟩
 let o34 := occurrences r1 ⟨#[34]⟩ 0 r1.length (r1.length + 1)
 let r2 : Str := ⟨⟨Vf (Jz [c1, c2])⟩⟩
 (o92.isEmpty == !has 92 [c1, c2]) && (o34.isEmpty == !has 34 [c1, c2]) && (glued ⟨#[92, 92]⟩ (partsBetween x o92 1) == r1) && (glued ⟨#[92, 34]⟩ (partsBetween r1 o34 1) == r2)
  && (Vf (Jz [c1, c2]) == Ai (Wk [c1, c2])) && !tooLong (x.length + o92.length * 2) && !tooLong (r1.length + o34.length * 2) && decide (r1.length <= sizeLine) && decide (r2.length <= sizeLine)
  && (has 92 [c1, c2] || Jz [c1, c2] == [c1, c2]) && (has 34 [c1, c2] || Vf (Jz [c1, c2]) == Jz [c1, c2])
theorem Ti : ∀ c1 ∈ Bc, ∀ c2 ∈ Bc, Ak4 c1 c2 = true := by decide +kernel
noncomputable def Ii (u : List Nat) : Bool :=
 let x : Str := ⟨⟨u⟩⟩
 (occurrences x ⟨#[92]⟩ 0 x.length (x.length + 1)).isEmpty && (occurrences x ⟨#[34]⟩ 0 x.length (x.length + 1)).isEmpty && Ai (Wk u) == u && (Ai (T0 u) == u || Ao u)
theorem Afx : ∀ u ∈ E0 :: (M6 ++ Qc), Ii u = true := by decide +kernel
end Mine
end
section
open PySem.Builtin PySem.Builtin.Str
namespace Mine
noncomputable def P1 (w : World) (L WL : Nat) (fr : Obj) (xs : List Value) (n N tk : Nat) (c : Code) (t : Sem Fin) (ws : List Nat) (os : List Obj) (e : End) : Prop :=
 ∃ cs nn hs m i obs, Ev 340 w [L, WL] 2 N tk cs [fr, A9 xs n] nn hs c .base t ws e (os.map some) m i obs /\ (∀ j ∈ ws, j < 2 + m) /\ Iv obs
theorem B6 {w : World} {L WL : Nat} {fr : Obj} {xs : List Value} {n N tk : Nat} {c : Code} {t : Sem Fin} {ws : List Nat} {os : List Obj} {e : End} {cs : List Gv} {nn hs m i : Nat} {obs : List Prop} (h : Ev 340 w [L, WL] 2 N tk cs [fr, A9 xs n] nn hs c .base t ws e (os.map some) m i obs) (h2 : ∀ j ∈ ws, j < 2 + m) (h3 : Iv obs) : P1 w L WL fr xs n N tk c t ws os e := ⟨_, _, _, _, _, _, h, h2, h3⟩
noncomputable def E2 (w : World) (L it WL : Nat) (fr : Obj) (xs : List Value) (n N tk : Nat) (u : List Nat) : Prop :=
 ∃ ys ny, ys.isEmpty = (!Ao u) /\ ys.length <= 9 /\ P1 w L WL fr xs n N tk (Ar w.params L it) (F7 w.params L) [0, 1, 3] [fr, A9 xs n, A9 ys ny] (.fin (.ret (.ref (N+884+1))))
theorem Df {w : World} {L it WL : Nat} {fr : Obj} {xs : List Value} {n N tk : Nat} {u : List Nat} {ys : List Value} {ny : Nat} (r : P1 w L WL fr xs n N tk (Ar w.params L it) (F7 w.params L) [0, 1, 3] [fr, A9 xs n, A9 ys ny] (.fin (.ret (.ref (N+884+1)))))
  (h : ys.isEmpty = (!Ao u)) (h9 : ys.length <= 9) : E2 w L it WL fr xs n N tk u := ⟨ys, ny, h, h9, r⟩
theorem inq {c : Nat} (h : c ∈ Bc) : Cj ⟨#[32, 34, 92, 39, 35]⟩ ⟨#[c]⟩ = Tn c := by
 rw [in1]
 have f : ∀ c ∈ Bc, decide (c ∈ [32, 34, 92, 39, 35]) = Tn c := by decide
 exact f c h
theorem Mz {c1 c2 : Nat} (h1 : c1 ∈ Bc) (h2 : c2 ∈ Bc) : (⟨#[c1, c2]⟩ : Str).cps.all (· < 128) = true := by
 have f : ∀ c ∈ Bc, c < 128 := by decide
 simp [f c1 h1, f c2 h2]
section
variable {U : Fl}
theorem Ajl {L it WL n ta tb tc td N tk : Nat} {xs : List Value} {kv : Int} {kt : Nat} {txt : Str} {xt : Nat} {sv : Value} {wt k : Nat} {u : List Nat} (hk : WK k u) (h0 : 0 <= kv) (hf : kv < 2 ^ 63) (hx : xs[kv.toNat]? = some (.str (S8 u) wt)) :
  E2 U.W L it WL (B2 U.P WL ta tb tc td (.str txt xt) (.int kv kt) sv) xs n N tk u := by
 cases hk with
 | bare u h =>
  have h : u = Ax \/ u = C8 \/ u = B7 \/ u = Co \/ u = nX := by simpa [M6] using h
  rcases h with rfl | rfl | rfl | rfl | rfl
  ·exact Df (B6 (Dc U N tk L it WL n ta tb tc td xs kv kt txt xt sv wt) (by decide) ⟨Ag h0 hf hx, trivial⟩) (by decide +kernel) (by decide)
  ·exact Df (B6 (Eg U N tk L it WL n ta tb tc td xs kv kt txt xt sv wt) (by decide) ⟨Ag h0 hf hx, trivial⟩) (by decide +kernel) (by decide)
  ·exact Df (B6 (Ct U N tk L it WL n ta tb tc td xs kv kt txt xt sv wt) (by decide) ⟨Ag h0 hf hx, trivial⟩) (by decide +kernel) (by decide)
  ·exact Df (B6 (D8 U N tk L it WL n ta tb tc td xs kv kt txt xt sv wt) (by decide) ⟨Ag h0 hf hx, trivial⟩) (by decide +kernel) (by decide)
  ·exact Df (B6 (L7 U N tk L it WL n ta tb tc td xs kv kt txt xt sv wt) (by decide) ⟨Ag h0 hf hx, trivial⟩) (by decide +kernel) (by decide)
 | pat u h _ =>
  have h : u = As 0 \/ u = As 1 \/ u = As 2 \/ u = As 3 \/ u = As 4 \/ u = As 5 \/ u = As 6 \/ u = As 7 := by simpa [Qc] using h
  rcases h with rfl | rfl | rfl | rfl | rfl | rfl | rfl | rfl
  ·exact Df (B6 (F1 U N tk L it WL n ta tb tc td xs kv kt txt xt sv wt) (by decide) ⟨Ag h0 hf hx, trivial⟩) (by decide +kernel) (by decide)
  ·exact Df (B6 (Ez U N tk L it WL n ta tb tc td xs kv kt txt xt sv wt) (by decide) ⟨Ag h0 hf hx, trivial⟩) (by decide +kernel) (by decide)
  ·exact Df (B6 (Ey U N tk L it WL n ta tb tc td xs kv kt txt xt sv wt) (by decide) ⟨Ag h0 hf hx, trivial⟩) (by decide +kernel) (by decide)
  ·exact Df (B6 (Da U N tk L it WL n ta tb tc td xs kv kt txt xt sv wt) (by decide) ⟨Ag h0 hf hx, trivial⟩) (by decide +kernel) (by decide)
  ·exact Df (B6 (G1 U N tk L it WL n ta tb tc td xs kv kt txt xt sv wt) (by decide) ⟨Ag h0 hf hx, trivial⟩) (by decide +kernel) (by decide)
  ·exact Df (B6 (Jq U N tk L it WL n ta tb tc td xs kv kt txt xt sv wt) (by decide) ⟨Ag h0 hf hx, trivial⟩) (by decide +kernel) (by decide)
  ·exact Df (B6 (L7 U N tk L it WL n ta tb tc td xs kv kt txt xt sv wt) (by decide) ⟨Ag h0 hf hx, trivial⟩) (by decide +kernel) (by decide)
  ·exact Df (B6 (Nr U N tk L it WL n ta tb tc td xs kv kt txt xt sv wt) (by decide) ⟨Ag h0 hf hx, trivial⟩) (by decide +kernel) (by decide)
 | any _ =>
  exact Df (B6 (Db U N tk L it WL n ta tb tc td xs kv kt txt xt sv wt) (by decide) ⟨Ag h0 hf hx, trivial⟩) (by show false = !Ao E0; decide +kernel) (by show 1 <= 9; decide)
 | two c1 c2 h1 h2 =>
  have i1 := inq h1
  have i2 := inq h2
  have g1 := @M9 U.W (tk+1573) (N+884) ⟨#[c1, c2]⟩ wt (Mz h1 h2)
  cases e1 : Tn c1 <;> cases e2 : Tn c2 <;> rw [e1] at i1 <;> rw [e2] at i2
  ·exact Df (B6 (Pt U N tk L it WL n ta tb tc td xs kv kt txt xt sv wt c1 c2) (by decide) ⟨i2, i1, g1, Ag h0 hf hx, trivial⟩) (by simp [Ao, e1, e2]) (by simp)
  ·exact Df (B6 (Q4 U N tk L it WL n ta tb tc td xs kv kt txt xt sv wt c1 c2) (by decide) ⟨i2, i1, g1, Ag h0 hf hx, trivial⟩) (by simp [Ao, e1, e2]) (by simp)
  ·exact Df (B6 (Pm U N tk L it WL n ta tb tc td xs kv kt txt xt sv wt c1 c2) (by decide) ⟨i2, i1, g1, Ag h0 hf hx, trivial⟩) (by simp [Ao, e1, e2]) (by simp)
  ·exact Df (B6 (Qb U N tk L it WL n ta tb tc td xs kv kt txt xt sv wt c1 c2) (by decide) ⟨i2, i1, g1, Ag h0 hf hx, trivial⟩) (by simp [Ao, e1, e2]) (by simp)
theorem Tk {L it WL n ta tb tc N tk : Nat} {xs : List Value} {kv : Int} {kt : Nat} {txt : Str} {xt : Nat} {wt : Nat} (h0 : 0 <= kv) (hf : kv < 2 ^ 63) (hx : xs[kv.toNat]? = some (.str (S8 Ax) wt)) :
  E2 U.W L it WL (Nj U.P WL ta tb tc (.str txt xt) (.int kv kt)) xs n N tk Ax := by
 exact Df (B6 (Cs U N tk L it WL n ta tb tc 0 xs kv kt txt xt wt) (by decide) ⟨Ag h0 hf hx, trivial⟩) (by decide +kernel) (by decide)
noncomputable def B (w : World) (L it WL : Nat) (fr : Obj) (xs : List Value) (n N tk : Nat) (F : Str -> Nat -> Obj) (T : List Nat) : Prop :=
 ∃ txt' xt', txt'.cps.toList = T /\ P1 w L WL fr xs n N tk (Ar w.params L it) (Sy w.params L) [0, 1] [F txt' xt', A9 xs n] (.fin .next)
theorem L5 {w : World} {L it WL : Nat} {fr : Obj} {xs : List Value} {n N tk : Nat} {F : Str -> Nat -> Obj} {T : List Nat} {txt' : Str} {xt' : Nat} (r : P1 w L WL fr xs n N tk (Ar w.params L it) (Sy w.params L) [0, 1] [F txt' xt', A9 xs n] (.fin .next)) (h : txt'.cps.toList = T) : B w L it WL fr xs n N tk F T := ⟨txt', xt', h, r⟩
theorem fm3 (k : Nat) : (Int.fmod (k : Int) 3 == 1) = (k % 3 == 1) := by
 rw [Int.fmod_eq_emod_of_nonneg _ (by decide), Bool.eq_iff_iff, beq_iff_eq, beq_iff_eq]
 lia
theorem An5 (k : Nat) : (Int.fmod (Int.fdiv (k : Int) 6 + Int.fdiv (Int.fmod (k : Int) 6) 5) 2 == 0) = st0 k := by
 unfold st0
 rw [Int.fmod_eq_emod_of_nonneg _ (by decide), Int.fmod_eq_emod_of_nonneg _ (by decide), Int.fdiv_eq_ediv_of_nonneg _ (by decide), Int.fdiv_eq_ediv_of_nonneg _ (by decide), Bool.eq_iff_iff, beq_iff_eq, beq_iff_eq]
 lia
theorem De {w : World} {m k a tok sz u : Nat} : Ac pw w (.call (.builtin "list.__getitem__") ⟨[.ref a, .int (Int.fmod (k : Int) 4) u], []⟩) tok sz [(a, Lc m)] [] [] (.str ⟨#[Ew k]⟩ (m + k % 4)) 0 := by
 have hk : k % 4 < 4 := Nat.mod_lt _ (by decide)
 have e : Int.fmod (k : Int) 4 = ((k % 4 : Nat) : Int) := by rw [Int.fmod_eq_emod_of_nonneg _ (by decide)]; lia
 rw [e]
 refine Ag (by lia) (by lia) ?_
 rw [Int.toNat_natCast]
 unfold Ew
 generalize k % 4 = j at hk
 match j, hk with
 | 0, _ => rfl
 | 1, _ => rfl
 | 2, _ => rfl
 | 3, _ => rfl
 | n + 4, h => lia
theorem Add (s : Str) : s.length = s.cps.toList.length := by show s.cps.size = _; simp
theorem S8l (u : List Nat) : (S8 u).cps.toList = u := rfl
theorem Af (c : Nat) : (⟨#[c]⟩ : Str).length = 1 := rfl
theorem sl {s : Str} {n : Nat} (h : s.length <= n) (hn : n <= 16777216) : s.length <= sizeLine := by
 have : sizeLine = 16777216 := rfl
 lia
theorem An3 {L it WL n ta tb tc td N tk : Nat} {xs : List Value} {kt : Nat} {txt : Str} {xt : Nat} {wt k : Nat} {u T : List Nat} (hk : WK k u) (hf : k < 1000) (hx : xs[k]? = some (.str (S8 u) wt))
  (hT : txt.cps.toList = T) (hl : T.length <= 100000) (h0 : k = 0 -> T = [] /\ u = Ax) (h1 : k ≠ 0 -> T ≠ []) :
  B U.W L it WL (B2 U.P WL ta tb tc td (.str txt xt) (.int k kt) (.bool (Ao u))) xs n N tk (fun a b => B2 U.P WL ta tb tc td (.str a b) (.int k kt) (.bool (Ao u))) (T ++ (Gt k u).enc) := by
 have hf' : (k : Int) < 2 ^ 63 := by lia
 have hx' : xs[((k : Int)).toNat]? = some (.str (S8 u) wt) := by simpa using hx
 have hp : (0 : Int) <= k := by lia
 have lt : txt.length = T.length := by rw [Add, hT]
 have ltn : k ≠ 0 -> txt.length ≠ 0 := fun h => by rw [lt]; have := h1 h; cases T with
  | nil => exact (this rfl).elim
  | cons a b => simp
 have bnd : ∀ {s : Str}, s.length <= 200000 -> s.length <= sizeLine := fun h => sl h (by decide)
 have three : ∀ s1 s2 s3 : Str, (s1 ++ s2 ++ s3).cps.toList = s1.cps.toList ++ (s2.cps.toList ++ s3.cps.toList) := fun s1 s2 s3 => by simp [Str.cps_append]
 have mmS : ∀ (z : Bool), (Int.fmod (k : Int) 3 == 1) = z -> ∀ t1 t2 t3 sz, Ac pw U.W (.builtin "int.__eq__" ⟨[.int (Int.fmod (k : Int) 3) t1, .int 1 t2], []⟩) t3 sz [] [] [] (.bool z) 0 := fun z h t1 t2 t3 sz => Ix h
 have bare : Ao u = false -> Ns k u = false -> u ≠ [] -> u.length <= 20 -> Ai (T0 u) = u -> B U.W L it WL (B2 U.P WL ta tb tc td (.str txt xt) (.int k kt) (.bool (Ao u))) xs n N tk (fun a b => B2 U.P WL ta tb tc td (.str a b) (.int k kt) (.bool (Ao u))) (T ++ (Gt k u).enc) := by
  intro hs hq hu hul he
  have lu : (S8 u).length = u.length := by rw [Add]; rfl
  have lun : (S8 u).length ≠ 0 := by rw [lu]; cases u with
   | nil => exact (hu rfl).elim
   | cons a b => simp
  have h3 : (k % 3 == 1) = false := by unfold Ns at hq; rw [hs] at hq; simpa using hq
  have en : (Gt k u).enc = u ++ [Ew k] := by
   unfold W2.enc Gt
   dsimp only
   rw [hq]
   simp [he]
  rw [hs]
  by_cases hk0 : k = 0
  ·obtain ⟨hT0, _⟩ := h0 hk0
   have htx : txt = ⟨#[]⟩ := by
    obtain ⟨⟨l⟩⟩ := txt
    have : l = T := hT
    rw [this, hT0]
   subst htx
   exact L5 (B6 (P6 U N tk L it WL n ta tb tc td xs k kt ⟨#[]⟩ xt wt (Ew k) _ (S8 u) default default) (by decide) ⟨lun, by simp [Af], bnd (by rw [Str.length_append, lu, Af]; lia), De, rfl, Ag hp hf' hx', mmS false (by rw [fm3]; exact h3) _ _ _ _, trivial⟩) (by rw [en, hT0, Str.cps_append]; simp [S8])
  ·exact L5 (B6 (Qk U N tk L it WL n ta tb tc td xs k kt txt xt wt (Ew k) _ (S8 u) default default) (by decide) ⟨by rw [Str.length_append]; have := ltn hk0; lia, by simp [Af], bnd (by rw [Str.length_append, Str.length_append, lu, Af, lt]; lia), De, ltn hk0, lun, bnd (by rw [Str.length_append, lu, lt]; lia), Ag hp hf' hx', mmS false (by rw [fm3]; exact h3) _ _ _ _, trivial⟩) (by rw [en, three, hT]; rfl)
 have quo : Ao u = false -> Ns k u = true -> u ≠ [] -> u.length <= 20 -> Ai (Wk u) = u -> (occurrences (S8 u) ⟨#[92]⟩ 0 (S8 u).length ((S8 u).length + 1)).isEmpty = true -> (occurrences (S8 u) ⟨#[34]⟩ 0 (S8 u).length ((S8 u).length + 1)).isEmpty = true ->
   B U.W L it WL (B2 U.P WL ta tb tc td (.str txt xt) (.int k kt) (.bool (Ao u))) xs n N tk (fun a b => B2 U.P WL ta tb tc td (.str a b) (.int k kt) (.bool (Ao u))) (T ++ (Gt k u).enc) := by
  intro hs hq hu hul he ho1 ho2
  have lu : (S8 u).length = u.length := by rw [Add]; rfl
  have lun : (S8 u).length ≠ 0 := by rw [lu]; cases u with
   | nil => exact (hu rfl).elim
   | cons a b => simp
  have h3 : (k % 3 == 1) = true := by unfold Ns at hq; rw [hs] at hq; simpa using hq
  have hk0 : k ≠ 0 := by rintro rfl; cases h3
  have en : (Gt k u).enc = 34 :: (u ++ [34, Ew k]) := by
   unfold W2.enc Gt
   dsimp only
   rw [hq]
   simp [he]
  have lt0 := ltn hk0
  rw [hs]
  exact L5 (B6 (S2 U N tk L it WL n ta tb tc td xs k kt txt xt wt (Ew k) _ (S8 u) default default) (by decide) ⟨by simp only [Str.length_append, Af]; lia, by simp [Af], bnd (by simp only [Str.length_append, Af]; lia), De, lt0, by simp only [Str.length_append, Af]; lia, bnd (by simp only [Str.length_append, Af]; lia), by simp only [Str.length_append, Af]; lia, by simp [Af], bnd (by simp only [Str.length_append, Af]; lia), by simp [Af], lun, bnd (by simp only [Str.length_append, Af]; lia),
    C6 ho2, C6 ho1, Ag hp hf' hx', mmS true (by rw [fm3]; exact h3) _ _ _ _, trivial⟩) (by rw [en]; simp [Str.cps_append, hT, S8])
 have ms : ∀ (z : Bool), st0 k = z -> ∀ t1 t2 t3 sz, Ac pw U.W (.builtin "int.__eq__" ⟨[.int (Int.fmod ((Int.fdiv (k : Int) (6)) + (Int.fdiv (Int.fmod (k : Int) (6)) (5))) (2)) t1, .int (0) t2], []⟩) t3 sz [] [] [] (.bool z) 0 := fun z h t1 t2 t3 sz => Ix (by rw [An5]; exact h)
 cases hk with
 | bare u h =>
  have f : ∀ u ∈ M6, u ≠ [] /\ u.length <= 20 /\ Ao u = false /\ Ii u = true := by decide +kernel
  obtain ⟨f1, f2, f3, f4⟩ := f u h
  unfold Ii at f4
  simp only [Bool.and_eq_true, Bool.or_eq_true, beq_iff_eq] at f4
  obtain ⟨⟨⟨o1, o2⟩, q1⟩, q2⟩ := f4
  rw [f3] at q2
  cases hq : Ns k u
  ·exact bare f3 hq f1 f2 (q2.elim id (fun h => by cases h))
  ·exact quo f3 hq f1 f2 q1 o1 o2
 | pat u h h3 =>
  have f : ∀ u ∈ Qc, u ≠ [] /\ u.length <= 20 /\ Ao u = false /\ Ii u = true := by decide +kernel
  obtain ⟨f1, f2, f3, f4⟩ := f u h
  unfold Ii at f4
  simp only [Bool.and_eq_true, Bool.or_eq_true, beq_iff_eq] at f4
  obtain ⟨⟨⟨o1, o2⟩, q1⟩, q2⟩ := f4
  refine quo f3 ?_ f1 f2 q1 o1 o2
  unfold Ns
  rw [f3, h3]
  rfl
 | any h =>
  have f4 : Ii E0 = true := by decide +kernel
  unfold Ii at f4
  simp only [Bool.and_eq_true, Bool.or_eq_true, beq_iff_eq] at f4
  obtain ⟨⟨⟨o1, o2⟩, q1⟩, q2⟩ := f4
  have hk0 : k ≠ 0 := by rintro rfl; cases h
  have hs : Ao E0 = true := by decide +kernel
  have en : (Gt k E0).enc = 34 :: (E0 ++ [34, Ew k]) := by
   unfold W2.enc Gt Ns
   dsimp only
   rw [hs, h]
   simp [q1]
  have lt0 := ltn hk0
  have lu : (S8 E0).length = 7 := rfl
  rw [hs]
  exact L5 (B6 (Ia U N tk L it WL n ta tb tc td xs k kt txt xt wt (Ew k) _ (S8 E0) default default) (by decide) ⟨by simp only [Str.length_append, Af]; lia, by simp [Af], bnd (by simp only [Str.length_append, Af]; lia), De, lt0, by simp only [Str.length_append, Af]; lia, bnd (by simp only [Str.length_append, Af]; lia), by simp only [Str.length_append, Af]; lia, by simp [Af], bnd (by simp only [Str.length_append, Af]; lia), by simp [Af], by rw [lu]; decide, bnd (by simp only [Str.length_append, Af]; lia),
    C6 o2, C6 o1, Ag hp hf' hx', ms false h _ _ _ _, trivial⟩) (by rw [en]; simp [Str.cps_append, hT, S8])
 | two c1 c2 h1 h2 =>
  have r := Ti c1 h1 c2 h2
  unfold Ak4 at r
  simp only [Bool.and_eq_true, Bool.or_eq_true, beq_iff_eq, Bool.not_eq_true', decide_eq_true_eq] at r
  obtain ⟨⟨⟨⟨⟨⟨⟨⟨⟨⟨r1, r2⟩, r3⟩, r4⟩, r5⟩, r6⟩, r7⟩, r8⟩, r9⟩, r10⟩, r11⟩ := r
  have sp : Ao [c1, c2] = (Tn c1 || Tn c2) := by simp [Ao]
  have si := @M9 U.W
  cases hs : Ao [c1, c2]
  ·have f : ∀ c1 ∈ Bc, ∀ c2 ∈ Bc, Ao [c1, c2] = false -> Ii [c1, c2] = true := by decide +kernel
   have f4 := f c1 h1 c2 h2 hs
   unfold Ii at f4
   simp only [Bool.and_eq_true, Bool.or_eq_true, beq_iff_eq] at f4
   obtain ⟨⟨⟨o1, o2⟩, q1⟩, q2⟩ := f4
   rw [<- hs]
   cases hq : Ns k [c1, c2]
   ·exact bare hs hq (by simp) (by simp) (q2.elim id (fun h => by rw [hs] at h; cases h))
   ·exact quo hs hq (by simp) (by simp) q1 o1 o2
  ·have hk0 : k ≠ 0 := by
    rintro rfl
    have := (h0 rfl).2
    have := congrArg List.length this
    simp [Ax] at this
   have lt0 := ltn hk0
   have lu : (S8 [c1, c2]).length = 2 := rfl
   cases h : st0 k
   ·have en : (Gt k [c1, c2]).enc = 34 :: (Ai (Wk [c1, c2]) ++ [34, Ew k]) := by
     unfold W2.enc Gt Ns
     dsimp only
     rw [hs, h]
     simp
    have l1 : (S8 (Jz [c1, c2])).length <= 4 /\ 2 <= (S8 (Jz [c1, c2])).length /\ (S8 (Vf (Jz [c1, c2]))).length <= 4 /\ 2 <= (S8 (Vf (Jz [c1, c2]))).length := by
     have f : ∀ c1 ∈ Bc, ∀ c2 ∈ Bc, (S8 (Jz [c1, c2])).length <= 4 /\ 2 <= (S8 (Jz [c1, c2])).length /\ (S8 (Vf (Jz [c1, c2]))).length <= 4 /\ 2 <= (S8 (Vf (Jz [c1, c2]))).length := by decide +kernel
     exact f c1 h1 c2 h2
    obtain ⟨l1, l2, l3, l4⟩ := l1
    cases a : has 92 [c1, c2] <;> cases b : has 34 [c1, c2] <;> rw [a] at r1 r10 <;> rw [b] at r2 r11
    ·have g1 : Jz [c1, c2] = [c1, c2] := r10.elim (fun h => by cases h) id
     have g2 : Vf (Jz [c1, c2]) = Jz [c1, c2] := r11.elim (fun h => by cases h) id
     rw [g1] at r2
     exact L5 (B6 (Ia U N tk L it WL n ta tb tc td xs k kt txt xt wt (Ew k) _ (S8 [c1, c2]) default default) (by decide) ⟨by simp only [Str.length_append, Af]; lia, by simp [Af], bnd (by simp only [Str.length_append, Af]; lia), De, lt0, by simp only [Str.length_append, Af]; lia, bnd (by simp only [Str.length_append, Af]; lia), by simp only [Str.length_append, Af]; lia, by simp [Af], bnd (by simp only [Str.length_append, Af]; lia), by simp [Af], by rw [lu]; decide, bnd (by simp only [Str.length_append, Af]; lia), C6 r2, C6 r1, Ag hp hf' hx', ms false h _ _ _ _, trivial⟩) (by rw [en, <- r5, g2, g1]; simp [Str.cps_append, hT, S8])
    ·have g1 : Jz [c1, c2] = [c1, c2] := r10.elim (fun h => by cases h) id
     rw [g1] at r2 r4 r7
     exact L5 (B6 (Np U N tk L it WL n ta tb tc td xs k kt txt xt wt (Ew k) _ (S8 [c1, c2]) (S8 (Vf (Jz [c1, c2]))) default) (by decide) ⟨by simp only [Str.length_append, Af]; lia, by simp [Af], bnd (by simp only [Str.length_append, Af]; lia), De, lt0, by simp only [Str.length_append, Af]; lia, bnd (by simp only [Str.length_append, Af]; lia), by simp only [Str.length_append, Af]; lia, by simp [Af], bnd (by simp only [Str.length_append, Af]; lia), by simp [Af], by lia, bnd (by simp only [Str.length_append, Af]; lia), Ep (Bool.or_eq_false_iff.mpr ⟨r2, rfl⟩) (by simp) (by simp) (by decide) r7 (by rw [g1]; exact r4) r9, C6 r1, Ag hp hf' hx', ms false h _ _ _ _, trivial⟩) (by rw [en, <- r5]; simp [Str.cps_append, hT, S8])
    ·have g2 : Vf (Jz [c1, c2]) = Jz [c1, c2] := r11.elim (fun h => by cases h) id
     exact L5 (B6 (Mh U N tk L it WL n ta tb tc td xs k kt txt xt wt (Ew k) _ (S8 [c1, c2]) (S8 (Jz [c1, c2])) default) (by decide) ⟨by simp only [Str.length_append, Af]; lia, by simp [Af], bnd (by simp only [Str.length_append, Af]; lia), De, lt0, by simp only [Str.length_append, Af]; lia, bnd (by simp only [Str.length_append, Af]; lia), by simp only [Str.length_append, Af]; lia, by simp [Af], bnd (by simp only [Str.length_append, Af]; lia), by simp [Af], by lia, bnd (by simp only [Str.length_append, Af]; lia), C6 r2, Ep (Bool.or_eq_false_iff.mpr ⟨r1, rfl⟩) (by simp) (by simp) (by decide) r6 r3 r8, Ag hp hf' hx', ms false h _ _ _ _, trivial⟩) (by rw [en, <- r5, g2]; simp [Str.cps_append, hT, S8])
    ·exact L5 (B6 (Mc U N tk L it WL n ta tb tc td xs k kt txt xt wt (Ew k) _ (S8 [c1, c2]) (S8 (Jz [c1, c2])) (S8 (Vf (Jz [c1, c2])))) (by decide) ⟨by simp only [Str.length_append, Af]; lia, by simp [Af], bnd (by simp only [Str.length_append, Af]; lia), De, lt0, by simp only [Str.length_append, Af]; lia, bnd (by simp only [Str.length_append, Af]; lia), by simp only [Str.length_append, Af]; lia, by simp [Af], bnd (by simp only [Str.length_append, Af]; lia), by simp [Af], by lia, bnd (by simp only [Str.length_append, Af]; lia), Ep (Bool.or_eq_false_iff.mpr ⟨r2, rfl⟩) (by simp) (by simp) (by decide) r7 r4 r9, Ep (Bool.or_eq_false_iff.mpr ⟨r1, rfl⟩) (by simp) (by simp) (by decide) r6 r3 r8, Ag hp hf' hx', ms false h _ _ _ _, trivial⟩) (by rw [en, <- r5]; simp [Str.cps_append, hT, S8])
   ·have en : (Gt k [c1, c2]).enc = Ai (T0 [c1, c2]) ++ [Ew k] := by
     unfold W2.enc Gt Ns
     dsimp only
     rw [hs, h]
     simp
    have i1 := inq h1
    have i2 := inq h2
    cases e1 : Tn c1 <;> cases e2 : Tn c2 <;> rw [e1] at i1 <;> rw [e2] at i2
    ·rw [sp, e1, e2] at hs; cases hs
    ·exact L5 (B6 (Lj U N tk L it WL n ta tb tc td xs k kt txt xt wt (Ew k) _ c1 c2 (S8 [c1, 92, c2])) (by decide) ⟨by rw [Str.length_append]; lia, by simp [Af], bnd (by simp only [Str.length_append, Af, show (S8 [c1, 92, c2]).length = 3 from rfl]; lia), De, lt0, by rw [show (S8 [c1, 92, c2]).length = 3 from rfl]; decide, bnd (by simp only [Str.length_append, Af, show (S8 [c1, 92, c2]).length = 3 from rfl]; lia), Iu rfl rfl (bnd (by rw [show (S8 [c1, 92, c2]).length = 3 from rfl]; decide)), i2, i1, si (Mz h1 h2), Ag hp hf' hx', ms true h _ _ _ _, trivial⟩) (by rw [en]; simp [Str.cps_append, hT, S8, T0, Ai, e1, e2])
    ·exact L5 (B6 (Lm U N tk L it WL n ta tb tc td xs k kt txt xt wt (Ew k) _ c1 c2 (S8 [92, c1, c2])) (by decide) ⟨by rw [Str.length_append]; lia, by simp [Af], bnd (by simp only [Str.length_append, Af, show (S8 [92, c1, c2]).length = 3 from rfl]; lia), De, lt0, by rw [show (S8 [92, c1, c2]).length = 3 from rfl]; decide, bnd (by simp only [Str.length_append, Af, show (S8 [92, c1, c2]).length = 3 from rfl]; lia), Iu rfl rfl (bnd (by rw [show (S8 [92, c1, c2]).length = 3 from rfl]; decide)), i2, i1, si (Mz h1 h2), Ag hp hf' hx', ms true h _ _ _ _, trivial⟩) (by rw [en]; simp [Str.cps_append, hT, S8, T0, Ai, e1, e2])
    ·exact L5 (B6 (Lr U N tk L it WL n ta tb tc td xs k kt txt xt wt (Ew k) _ c1 c2 (S8 [92, c1, 92, c2])) (by decide) ⟨by rw [Str.length_append]; lia, by simp [Af], bnd (by simp only [Str.length_append, Af, show (S8 [92, c1, 92, c2]).length = 4 from rfl]; lia), De, lt0, by rw [show (S8 [92, c1, 92, c2]).length = 4 from rfl]; decide, bnd (by simp only [Str.length_append, Af, show (S8 [92, c1, 92, c2]).length = 4 from rfl]; lia), Iu rfl rfl (bnd (by rw [show (S8 [92, c1, 92, c2]).length = 4 from rfl]; decide)), i2, i1, si (Mz h1 h2), Ag hp hf' hx', ms true h _ _ _ _, trivial⟩) (by rw [en]; simp [Str.cps_append, hT, S8, T0, Ai, e1, e2])
end
end Mine
end
namespace Mine
section
variable {w : World} {A : Around} {c : Code} {s : Shared} {E : Value -> Shared -> Prop}
theorem Q2 {it : Nat} {x left : Int} {Q : Option Value -> Shared -> Prop} {L : List (Nat × Obj)} (hA : A.handled = none) (hl : left <= 0) (H : At w s ((it, Bz x left) :: L))
  (cont : ∀ s', At w s' ((it, Bz x left) :: L) -> Keeps [it] s s' -> s'.toks = s.toks -> Q none s') :
  wpOwn (Ak w) A c (pyNext (.ref it)) Q E s := by
 have hit := H.own _ (.head _)
 dsimp only at hit
 have hT : s.TypeIs (.ref it) "range_iterator" := ⟨_, hit, rfl⟩
 refine Cr ?_
 have hh : (A.under c).handled = none := hA
 unfold pyNext
 refine wpAny_bind (wpAny_attempt (wpAny_callSpecial?_slot (name := Str.ofString "__next__") hT F.slot_range_iterator_next
  (wpAny_call_entry F.slot_range_iterator_next hT F.entry_range_iterator_next ?_ (F.args_range_iterator_next_1 _))))
 show wpAny _ _ (field (.ref it) 0 >>= _) _ _ s
 refine wpAny_bind (wpAny_field hit rfl (x := rawInt x) rfl ?_)
 show wpAny _ _ (field (.ref it) 1 >>= _) _ _ s
 refine wpAny_bind (wpAny_field hit rfl (x := rawInt left) rfl ?_)
 show wpAny _ _ (field (.ref it) 2 >>= _) _ _ s
 refine wpAny_bind (wpAny_field hit rfl (x := rawInt 1) rfl ?_)
 show wpAny _ _ (if left <= 0 then _ else _) _ _ s
 rw [if_pos hl]
 refine wpAny_bind (wpAny_rule ?_)
 refine wpAny_bind ?_
 show wpAny _ _ (newExc (.type "StopIteration") [] >>= _) _ _ _
 refine wpAny_bind ?_
 simp only [newExc, newTuple]
 refine wpAny_bind (wpAny_newObj_type ?_ (by size_fits))
 refine wpAny_bind (m := firstArgMember _ _) (wpAny_of_eq (a := Value.none) (by first | rfl | (simp only [firstArgMember]; rfl)) ?_)
 refine wpAny_newObj_type ?_ (by size_fits)
 simp only [raiseNew]
 refine wpAny_bind (wpAny_handled ?_)
 rw [show (A.under c).in1.handled = none from hh]
 refine wpAny_bind (wpAny_pure (wpAny_throw ?_))
 refine wpAny_bind (wpAny_isInstance (T := "StopIteration") (b := true) ⟨_, Heap.get?_push_size _ rfl, rfl⟩ isSubtype_stop ?_)
 refine wpAny_pure ?_
 have key : ∀ s' : Shared, s'.heap.get? it = some (Bz x left) -> (∀ b o, b ≠ it -> s.heap.get? b = some o -> s'.heap.get? b = some o) -> s.heap.objs.size <= s'.heap.objs.size ->
   s'.gens = s.gens -> s'.toks = s.toks -> s'.drawn = s.drawn -> s'.os = s.os -> Q none s' := fun s' a1 a2 a3 a4 a5 a6 a7 =>
  have z := H.ext (s' := s') a1 a2 a3 a4 (Nat.le_of_eq a5.symm) a6 a7
  cont s' z.1 z.2 a5
 refine key _ ?_ ?_ ?_ rfl rfl rfl rfl
 ·exact Heap.get?_push_of_some _ (Heap.get?_push_of_some _ hit)
 ·intro b o hb ho
  exact Heap.get?_push_of_some _ (Heap.get?_push_of_some _ ho)
 ·show s.heap.objs.size <= (Heap.push _ _).objs.size
  rw [Heap.size_push, Heap.size_push]
  lia
theorem L0 : @PySem.swappedStores = F5 := PySem.W.Fast.te4016559146275205325
theorem M8 : @PySem.assignStores = Gp := PySem.W.Fast.te2470068587113613483
theorem Hb : @PySem.assignEach = D7 := PySem.W.Fast.te15628205474173192105
theorem Lq {ts : List Expr} {l r : Expr} {p1 p2 : Pos} {env : Env} {Q : Flow -> Shared -> Prop} (hsw : swapsWithSole ts (.Compare l [.NotEq] [r] p1) p2.line env = pure false) (hm : behindInMarks .NotEq r = false)
  (h : wpOwn (Ak w) A c (PySem.eval l env) (fun a s1 => wpOwn (Ak w) A c (PySem.eval r env) (fun b s2 => wpOwn (Ak w) A c (compareOp .NotEq a b) (fun cv s3 =>
   wpOwn (Ak w) A c (PySem.W.R.bindR (F5 ts (.Compare l [.NotEq] [r] p1) env) fun sw => Gp env cv sw ((D7 ts env).map (·.2))) Q E s3) E s2) E s1) E s) :
  wpOwn (Ak w) A c (PySem.exec (.Assign ts (.Compare l [.NotEq] [r] p1) p2) env) Q E s := by
 show wpOwn (Ak w) A c (standAt p2 >>= fun _ => swapsWithSole ts (.Compare l [.NotEq] [r] p1) p2.line env >>= fun b => if b = true then _ else
  (PySem.eval (.Compare l [.NotEq] [r] p1) env >>= fun v => swappedStores ts (.Compare l [.NotEq] [r] p1) env >>= fun sw => assignStores env v sw ((assignEach ts env).map (·.2)))) Q E s
 refine wpOwn_bind (Dx (wpOwn_bind ?_))
 rw [hsw]
 refine An ?_
 rw [if_neg Bool.false_ne_true]
 refine wpOwn_bind ?_
 show wpOwn (Ak w) A c (PySem.eval l env >>= fun a => compareChain p1 a [.NotEq] [match behindInMarks .NotEq r with | true => _ | false => PySem.eval r env]) _ E s
 rw [hm]
 refine wpOwn_bind (wpOwn_mono h (fun a s1 h1 => ?_) fun _ _ h => h)
 show wpOwn (Ak w) A c (holding [a] (PySem.eval r env) >>= fun rv => standAt p1 >>= fun _ => operate [a, rv] (compareOp .NotEq a rv)) _ E s1
 refine wpOwn_bind (Ce (wpOwn_mono h1 (fun b s2 h2 => ?_) fun _ _ h => h))
 refine wpOwn_bind (Dx (El (wpOwn_mono h2 (fun cv s3 h3 => ?_) fun _ _ h => h)))
 rw [<- L0, <- M8, <- Hb, <- PySem.W.R.bindR_eq] at h3
 exact h3
end
section
variable (U : Fl)
theorem Ajy (v1 v2 : Value) : Ci (Fi (Ld U.P)) v1 v2 = pure () := by kernel_rfl
theorem Aad : Eb (Ld U.P) = [Jb U.P 0, Jb U.P 1, Jb U.P 2] := by kernel_rfl
theorem Yo : L8 (Ld U.P) = [] := by kernel_rfl
noncomputable def asP : Stmt -> Pos | .Assign _ _ p => p | _ => ⟨0, 0, 0, 0⟩
noncomputable def Lo : Expr -> Pos | .Compare _ _ _ p => p | _ => ⟨0, 0, 0, 0⟩
theorem Aij : Jb U.P 0 = .Assign (Wl (Jb U.P 0)) (.Compare (C2 (F2 (Jb U.P 0))) [.NotEq] [Bi (F2 (Jb U.P 0))] (Lo (F2 (Jb U.P 0)))) (asP (Jb U.P 0)) := by kernel_rfl
theorem Ain : F2 (Jb U.P 0) = .Compare (C2 (F2 (Jb U.P 0))) [.NotEq] [Bi (F2 (Jb U.P 0))] (Lo (F2 (Jb U.P 0))) := by kernel_rfl
theorem Aja : behindInMarks .NotEq (Bi (F2 (Jb U.P 0))) = false := by kernel_rfl
theorem Aii (L : Nat) (ln : Nat) : swapsWithSole (Wl (Jb U.P 0)) (.Compare (C2 (F2 (Jb U.P 0))) [.NotEq] [Bi (F2 (Jb U.P 0))] (Lo (F2 (Jb U.P 0)))) ln (Hw U.P L) = pure false := by kernel_rfl
end
theorem Hz {w : World} {L WL : Nat} {fr : Obj} {xs : List Value} {n N tk : Nat} {c : Code} {t : Sem Fin} {ws : List Nat} {os : List Obj} {f : Flow} {M : List (Nat × Obj)}
  (r : P1 w L WL fr xs n N tk c t ws os (.fin f)) (hA : A.handled = none) (hD : A.depth <= 340) (H : At w s ([(L, fr), (WL, A9 xs n)] ++ M)) (hN : s.heap.objs.size = N + 884) (hT : s.toks = tk + 1573) (hnd : ws.Nodup) (hlen : ws.length = os.length)
  (cont : ∀ s', At w s' ((ws.zip os).map fun p => (Eu [L, WL] 2 (N + 884) p.1, p.2)) -> Keeps [L, WL] s s' -> R (.ok f) s') : MK w A R c .base t s := by
 obtain ⟨cs, nn, hs, m, i, obs, ev, hm, ho⟩ := r
 refine C5 (W := ws.zip os) ev hA hD H.left rfl rfl rfl hN hT (Gs _ _ hlen) ?_ hnd hm ho ?_
 ·rw [<- I2 ws os hlen, List.map_map]
  rw [I2 ws os hlen]
  rfl
 ·intro s' H' K' _ _
  exact cont s' H' K'
noncomputable def Ej : Nat -> List (List Nat) -> List W2
 | _, [] => []
 | k, u :: us => Gt k u :: Ej (k + 1) us
section
variable {U : Fl}
theorem Wu {L it WL n ta tb k kt : Nat} {xs : List Value} {fr : Obj} {txt : Str} {xt wt : Nat} {u : List Nat} {Q : Flow -> Shared -> Prop} {E : Value -> Shared -> Prop} {M : List (Nat × Obj)}
  (hfr : (∃ tc, fr = Nj U.P WL ta tb tc (.str txt xt) (.int k kt) /\ u = Ax) \/ ∃ tc td sv, fr = B2 U.P WL ta tb tc td (.str txt xt) (.int k kt) sv)
  (hk : WK k u) (hf : k < 1000) (hx : xs[k]? = some (.str (S8 u) wt)) (hA : A.handled = none) (hD : A.depth <= 340) (hU : A.units <= 9000)
  (H : At U.W s ([(L, fr), (WL, A9 xs n)] ++ M))
  (cont : ∀ s' tc td, At U.W s' ([(L, B2 U.P WL ta tb tc td (.str txt xt) (.int k kt) (.bool (Ao u))), (WL, A9 xs n)] ++ M) -> Keeps [L, WL] s s' -> Q .next s') :
  wpOwn (Ak U.W) A (Ar U.P L it) (PySem.exec (Jb U.P 0) (Hw U.P L)) Q E s := by
 rw [Aij]
 refine Lq (Aii U L _) (Aja U) ?_
 refine Bf (Br ?_)
 have hf' : (k : Int) < 2 ^ 63 := by lia
 have hx' : xs[((k : Int)).toNat]? = some (.str (S8 u) wt) := by simpa using hx
 have hp : (0 : Int) <= k := by lia
 obtain ⟨N, tk, hN, hT⟩ := H.NT
 have e2 : E2 U.W L it WL fr xs n N tk u := by
  rcases hfr with ⟨tc, rfl, rfl⟩ | ⟨tc, td, sv, rfl⟩
  ·exact Tk hp hf' hx'
  ·exact Ajl hk hp hf' hx'
 obtain ⟨ys, ny, hy, hy9, r2⟩ := e2
 refine Hz r2 hA hD H hN hT (by decide) rfl ?_
 intro s1 H1 K1
 have H1a : At U.W s1 ([(L, fr), (WL, A9 xs n), (N+884+1, A9 ys ny)] ++ M) := At.next H H1 K1 (fun q hq => by
  have hq2 : q ∈ [(L, fr), (WL, A9 xs n), (N+884+1, A9 ys ny)] := hq
  simp only [List.mem_cons, List.not_mem_nil, or_false] at hq2
  rcases hq2 with rfl | rfl | rfl
  ·exact .inl (.head _)
  ·exact .inl (.tail _ (.head _))
  ·right; dsimp only; lia)
 have H1b : At U.W s1 ([(L, fr), (WL, A9 xs n)] ++ ((N+884+1, A9 ys ny) :: M)) := H1a
 obtain ⟨N1, tk1, hN1, hT1⟩ := H1b.NT
 refine Bf (Br ?_)
 have r3 : P1 U.W L WL fr xs n N1 tk1 (Ar U.P L it) (Acg U.P L) [0, 1, 2] [fr, A9 xs n, A9 [] 0] (.fin (.ret (.ref (N1+884)))) := by
  rcases hfr with ⟨tc, rfl, rfl⟩ | ⟨tc, td, sv, rfl⟩
  ·exact ⟨_, _, _, _, _, _, Wy U N1 tk1 L it WL n ta tb tc 0 xs k kt txt xt, by decide, trivial⟩
  ·exact ⟨_, _, _, _, _, _, Aaj U N1 tk1 L it WL n ta tb tc td xs k kt txt xt sv, by decide, trivial⟩
 refine Hz r3 hA hD H1b hN1 hT1 (by decide) rfl ?_
 intro s2 H2 K2
 have H2a : At U.W s2 ([(L, fr), (WL, A9 xs n), (N1+884, A9 [] 0)] ++ ((N+884+1, A9 ys ny) :: M)) := At.next H1b H2 K2 (fun q hq => by
  have hq2 : q ∈ [(L, fr), (WL, A9 xs n), (N1+884, A9 [] 0)] := hq
  simp only [List.mem_cons, List.not_mem_nil, or_false] at hq2
  rcases hq2 with rfl | rfl | rfl
  ·exact .inl (.head _)
  ·exact .inl (.tail _ (.head _))
  ·right; dsimp only; lia)
 refine Pb (xs := ys) (n := ny) (m := 0) (by lia) (H2a.own _ (.tail _ (.tail _ (.tail _ (.head _))))) (H2a.own _ (.tail _ (.tail _ (.head _)))) ?_ ?_
 ·show A.units + (Ar U.P L it).cUnits + 10 < cLine
  have := Ea (Ar U.P L it)
  have : cLine = 9900 := rfl
  lia
 rw [hy, Bool.not_not, <- Ain]
 have H2b : At U.W s2 ([(L, fr), (WL, A9 xs n)] ++ ((N1+884, A9 [] 0) :: (N+884+1, A9 ys ny) :: M)) := H2a
 obtain ⟨N2, tk2, hN2, hT2⟩ := H2b.NT
 refine Bj ?_
 have fin : ∀ s3 tc td, At U.W s3 [(L, B2 U.P WL ta tb tc td (.str txt xt) (.int k kt) (.bool (Ao u))), (WL, A9 xs n)] -> Keeps [L, WL] s2 s3 -> Q .next s3 := by
  intro s3 tc td H3 K3
  have H3a := At.next H2b H3 K3 (fun q hq => .inl (List.mem_map_of_mem (f := (·.1)) hq))
  refine cont s3 tc td (H3a.sub ?_ ?_) ((K1.trans K2).trans K3)
  ·intro q hq
   rcases List.mem_cons.mp hq with rfl | hq
   ·exact .head _
   ·rcases List.mem_cons.mp hq with rfl | hq
    ·exact .tail _ (.head _)
    ·exact .tail _ (.tail _ (.tail _ (.tail _ hq)))
  ·have nd := H3a.nd
   have p : List.Perm ([(L, B2 U.P WL ta tb tc td (.str txt xt) (.int k kt) (.bool (Ao u))), (WL, A9 xs n)] ++ ((N1+884, A9 [] 0) :: (N+884+1, A9 ys ny) :: M)) ((N1+884, A9 [] 0) :: (N+884+1, A9 ys ny) :: ([(L, B2 U.P WL ta tb tc td (.str txt xt) (.int k kt) (.bool (Ao u))), (WL, A9 xs n)] ++ M)) := (List.perm_append_comm (l₁ := [_, _]) (l₂ := [_, _])).append_right M
   exact (List.nodup_cons.mp (List.nodup_cons.mp ((p.map (·.1)).nodup_iff.mp nd)).2).2
 rcases hfr with ⟨tc, rfl, rfl⟩ | ⟨tc, td, sv, rfl⟩
 ·exact C5 (W := [0, 1].zip [_, _]) (Aa9 U N2 tk2 L it WL n ta tb tc 0 xs k kt txt xt (Ao Ax)) hA hD H2b.left rfl rfl rfl hN2 hT2 rfl rfl (by decide) (by decide) trivial (fun s3 H3 K3 _ _ => fin s3 _ _ H3 K3)
 ·exact C5 (W := [0, 1].zip [_, _]) (Wp U N2 tk2 L it WL n ta tb tc td xs k kt txt xt (Ao u) sv) hA hD H2b.left rfl rfl rfl hN2 hT2 rfl rfl (by decide) (by decide) trivial (fun s3 H3 K3 _ _ => fin s3 _ _ H3 K3)
end
section
variable (U : Fl) (N tk : Nat)
theorem Tl (M K WL n ta tb tc td : Nat) (xs : List Value) (txt : Str) (xt : Nat) (kv sv : Value) : Ev 330 U.W [N+884] 1 M K [] [B2 U.P WL ta tb tc td (.str txt xt) kv sv] 40 0x01
  (Mn U N tk WL n xs).c (Mn U N tk WL n xs).κ (Cb (Mn U N tk WL n xs).t (.ok .next)) [] (.fin (.ret (.str txt xt))) [] 0 0 [] := by
 obtain ⟨b, _⟩ := U; cases b <;> kernel_rfl
theorem Vn (M K WL n ta tb tc td : Nat) (xs : List Value) (txt : Str) (xt : Nat) (kv sv : Value) : Ev 330 U.W [N+884] 1 M K [] [B2 U.P WL ta tb tc td (.str txt xt) kv sv] 40 0x01
  (Me U N tk WL n xs).c (Me U N tk WL n xs).κ (Cb (Me U N tk WL n xs).t (.ok .next)) [] (.fin (.ret (.str txt xt))) [] 0 0 [] := by
 obtain ⟨b, _⟩ := U; cases b <;> kernel_rfl
theorem Vt (M K WL n ta tb tc td : Nat) (xs : List Value) (txt : Str) (xt : Nat) (kv sv : Value) : Ev 330 U.W [N+884] 1 M K [] [B2 U.P WL ta tb tc td (.str txt xt) kv sv] 40 0x01
  (N0 U N tk WL n xs).c (N0 U N tk WL n xs).κ (Cb (N0 U N tk WL n xs).t (.ok .next)) [] (.fin (.ret (.str txt xt))) [] 0 0 [] := by
 obtain ⟨b, _⟩ := U; cases b <;> kernel_rfl
theorem T3 (M K WL n ta tb tc td : Nat) (xs : List Value) (txt : Str) (xt : Nat) (kv sv : Value) : Ev 330 U.W [N+884] 1 M K [] [B2 U.P WL ta tb tc td (.str txt xt) kv sv] 40 0x01
  (Nf U N tk WL n xs).c (Nf U N tk WL n xs).κ (Cb (Nf U N tk WL n xs).t (.ok .next)) [] (.fin (.ret (.str txt xt))) [] 0 0 [] := by
 obtain ⟨b, _⟩ := U; cases b <;> kernel_rfl
end
section
variable {U : Fl}
theorem Si (d : W2) (ds : List W2) : Dl (d :: ds) = d.enc ++ Dl ds := rfl
theorem Abu {k : Nat} {u : List Nat} (h : WK k u) : u.length <= 8 := by
 cases h with
 | bare u h =>
  have f : ∀ u ∈ M6, u.length <= 8 := by decide
  exact f u h
 | pat u h _ =>
  have f : ∀ u ∈ Qc, u.length <= 8 := by decide
  exact f u h
 | any _ => decide
 | two _ _ _ _ => simp
theorem Ou : ∀ l : List (Bool × Nat), (Ai l).length <= 2 * l.length
 | [] => Nat.le_refl _
 | (b, v) :: l => by
  have := Ou l
  cases b <;> simp [Ai] at * <;> lia
theorem Qx {k : Nat} {u : List Nat} (h : WK k u) : (Gt k u).enc.length <= 20 /\ (Gt k u).enc ≠ [] := by
 have hl := Abu h
 have hi : (Gt k u).it.length = u.length := by
  unfold Gt
  dsimp only
  split <;> simp [Wk, T0]
 have he := Ou (Gt k u).it
 unfold W2.enc
 split
 ·exact ⟨by simp; lia, by simp⟩
 ·exact ⟨by simp; lia, by simp⟩
theorem Bt : ∀ {vs : List Value} {xs : List Str} {k : Nat} {x : Str}, StrsAre vs xs -> xs[k]? = some x -> ∃ t, vs[k]? = some (.str x t)
 | _, _, 0, x, .cons y t h, e => by
  obtain rfl : y = x := by simpa using e
  exact ⟨t, rfl⟩
 | _, _, k + 1, x, .cons y t h, e => by
  obtain ⟨t', h'⟩ := Bt h (k := k) (x := x) (by simpa using e)
  exact ⟨t', by simpa using h'⟩
noncomputable def Ahy (P : Params) (WL ta tb k : Nat) (tv : Value) (fr : Obj) : Prop := (k = 0 /\ fr = Op P WL ta tb tv) \/ (k ≠ 0 /\ ∃ tc td kv kt sv, fr = B2 P WL ta tb tc td tv (.int kv kt) sv)
theorem Qp {L it WL n ta tb : Nat} {xs : List Value} {W : List (List Nat)} {F : List (Nat × Obj)} (hW : StrsAre xs (W.map S8)) (hlen : W.length <= 900) (hk : ∀ k u, W[k]? = some u -> WK k u) (h0 : W[0]? = some Ax) :
  ∀ (rest : List (List Nat)) (k : Nat) (T : List Nat) (txt : Str) (xt : Nat) (fr : Obj) (A : Around) (s : Shared) (R : Result -> Shared -> Prop), W.drop k = rest -> k <= W.length -> txt.cps.toList = T -> T.length <= 20 * k -> (k = 0 -> T = []) -> (k ≠ 0 -> T ≠ []) ->
  Ahy U.P WL ta tb k (.str txt xt) fr -> A.handled = none -> A.depth <= 340 -> A.units <= 9000 ->
  At U.W s ([(it, Bz k (rest.length : Nat)), (L, fr), (WL, A9 xs n)] ++ F) ->
  (∀ s' o' txt' xt' fr', txt'.cps.toList = T ++ Dl (Ej k rest) -> Ahy U.P WL ta tb W.length (.str txt' xt') fr' -> At U.W s' ([(it, o'), (L, fr'), (WL, A9 xs n)] ++ F) -> Keeps [it, L, WL] s s' -> R (.ok .next) s') ->
  codeAny (Ak U.W) A (Ar U.P L it) R s
 | [], k, T, txt, xt, fr, A, s, R, hd, hkl, hT, hTl, hT0, hT1, hfr, hA, hD, hU, H, cont => by
  have hkW : k = W.length := by
   have := congrArg List.length hd
   simp at this
   lia
  subst hkW
  unfold Ar Hg
  refine Dr ?_
  refine Q2 hA (by simp) H ?_
  intro s1 H1 K1 _
  rw [Yo]
  exact Cc (cont s1 _ txt xt fr (by simp [Ej, Dl, hT]) hfr H1 (K1.mono (by intro y hy; simp at hy; simp [hy])))
 | u :: rest, k, T, txt, xt, fr, A, s, R, hd, hkl, hT, hTl, hT0, hT1, hfr, hA, hD, hU, H, cont => by
  have hlt : k < W.length := by
   have := congrArg List.length hd
   simp at this
   lia
  have hu : W[k]? = some u := by
   have h := List.drop_eq_getElem_cons hlt
   rw [hd] at h
   rw [List.getElem?_eq_getElem hlt]
   exact congrArg some (List.cons.inj h).1.symm
  have hd' : W.drop (k + 1) = rest := by
   have h := List.drop_eq_getElem_cons hlt
   rw [hd] at h
   exact (List.cons.inj h).2.symm
  have wk := hk k u hu
  have hx : ∃ wt, xs[k]? = some (.str (S8 u) wt) := Bt hW (by rw [List.getElem?_map, hu]; rfl)
  obtain ⟨wt, hx⟩ := hx
  have hu0 : k = 0 -> u = Ax := by
   rintro rfl
   rw [h0] at hu
   exact (Option.some.inj hu).symm
  unfold Ar Hg
  refine Dr ?_
  refine Jx (by simp) H ?_
  intro s1 H1 K1 hT1k
  have H1a : At U.W s1 ([(L, fr), (WL, A9 xs n)] ++ ((it, Bz (k + 1) (rest.length : Nat)) :: F)) := by
   have e : ((u :: rest).length : Int) - 1 = (rest.length : Int) := by simp
   rw [e] at H1
   exact H1.perm (List.perm_append_comm (l₁ := [(L, fr), (WL, A9 xs n)]) (l₂ := [(it, Bz (k + 1) (rest.length : Nat))]) |>.append_right F)
  generalize s.toks = kt
  show wpOwn _ _ _ (letOwnedTupleGo (Fi (Ld U.P)) (.ref it) (.int k kt)) _ _ _
  rw [show @letOwnedTupleGo = Ci from PySem.W.Fast.te1578499551869305889, Ajy]
  refine An ?_
  obtain ⟨N, tk, hN, hTk⟩ := H1a.NT
  refine Bp (By ?_)
  have bound : ∃ fr1, ((∃ tc, fr1 = Nj U.P WL ta tb tc (.str txt xt) (.int k kt) /\ u = Ax) \/ ∃ tc td sv, fr1 = B2 U.P WL ta tb tc td (.str txt xt) (.int k kt) sv) /\
    P1 U.W L WL fr xs n N tk (Ar U.P L it) (Afd U.P L (.int k kt)) [0, 1] [fr1, A9 xs n] (.fin .next) := by
   rcases hfr with ⟨rfl, rfl⟩ | ⟨_, tc, td, kv, kw, sv, rfl⟩
   ·exact ⟨_, .inl ⟨_, rfl, hu0 rfl⟩, _, _, _, _, _, _, Xk U N tk L it WL n ta tb 0 0 xs (0 : Nat) kt txt xt, by decide, trivial⟩
   ·exact ⟨_, .inr ⟨_, _, _, rfl⟩, _, _, _, _, _, _, Wx U N tk L it WL n ta tb tc td xs k kt txt xt (.int kv kw) sv, by decide, trivial⟩
  obtain ⟨fr1, hfr1, r1⟩ := bound
  refine Hz r1 hA hD H1a hN hTk (by decide) rfl ?_
  intro s2 H2 K2
  have H2a : At U.W s2 ([(L, fr1), (WL, A9 xs n)] ++ ((it, Bz (k + 1) (rest.length : Nat)) :: F)) := At.next H1a H2 K2 (fun q hq => .inl (List.mem_map_of_mem (f := (·.1)) hq))
  rw [Aad]
  refine B4 (Wu hfr1 wk (by lia) hx hA hD hU H2a ?_)
  intro s3 tc td H3 K3
  obtain ⟨N3, tk3, hN3, hTk3⟩ := H3.NT
  obtain ⟨txt', xt', ht', rb⟩ := An3 (U := U) (L := L) (it := it) (WL := WL) (n := n) (ta := ta) (tb := tb) (tc := tc) (td := td) (N := N3) (tk := tk3) (xs := xs) (kt := kt) (txt := txt) (xt := xt) wk (by lia) hx hT (by lia) (fun h => ⟨hT0 h, hu0 h⟩) hT1
  refine Bm (Bj (Hz rb hA hD H3 hN3 hTk3 (by decide) rfl ?_))
  intro s4 H4 K4
  have H4a : At U.W s4 ([(L, B2 U.P WL ta tb tc td (.str txt' xt') (.int k kt) (.bool (Ao u))), (WL, A9 xs n)] ++ ((it, Bz (k + 1) (rest.length : Nat)) :: F)) := At.next H3 H4 K4 (fun q hq => .inl (List.mem_map_of_mem (f := (·.1)) hq))
  have el := Qx wk
  refine Qp (F := F) (WL := WL) (n := n) (ta := ta) (tb := tb) hW hlen hk h0 rest (k + 1) (T ++ (Gt k u).enc) txt' xt' _ A s4 R hd' (by lia) ht' (by simp; lia) (by lia) (fun _ h => el.2 (List.append_eq_nil_iff.mp h).2) (.inr ⟨by lia, tc, td, k, kt, .bool (Ao u), rfl⟩) hA hD hU (H4a.perm ?_) ?_
  ·exact (List.perm_append_comm (l₁ := [(it, Bz (k + 1) (rest.length : Nat))]) (l₂ := [_, _])).append_right F
  ·intro s5 o5 txt5 xt5 fr5 h5 hf5 H5 K5
   refine cont s5 o5 txt5 xt5 fr5 (by rw [h5]; simp [Ej, Si]) hf5 H5 ?_
   have m : Keeps [it, L, WL] s s4 := (K1.mono (by intro y hy; simp at hy; simp [hy])).trans ((K2.mono (by intro y hy; simp at hy; rcases hy with h | h <;> simp [h])).trans ((K3.mono (by intro y hy; simp at hy; rcases hy with h | h <;> simp [h])).trans (K4.mono (by intro y hy; simp at hy; rcases hy with h | h <;> simp [h]))))
   exact m.trans K5
theorem Hq (es : List Ent) : (Aq es).length = 6 * es.length + (if es.length % 2 = 1 then 5 else 0) := by
 have hf : ∀ l : List Ent, (l.flatMap Az).length = 6 * l.length := by
  intro l
  induction l with
  | nil => rfl
  | cons a l ih => simp [Az, ih]; lia
 unfold Aq
 rw [List.length_append, hf]
 split <;> rfl
theorem Ol {es : List Ent} (h : 2 <= es.length) : (Aq es)[0]? = some Ax := by
 cases es with
 | nil => simp at h
 | cons a es => rfl
theorem Y0 {WL n : Nat} {xs : List Value} {F : List (Nat × Obj)} {es : List Ent} (hW : StrsAre xs ((Aq es).map S8)) (hE : ∀ e ∈ es, Nw e) (h2 : 2 <= es.length) (h5 : es.length <= 5)
  (hA : A.handled = none) (hD : A.depth <= 320) (hU : A.units <= 8000) (H : At U.W s ([(WL, A9 xs n)] ++ F))
  (cont : ∀ s' txt xt, txt.cps.toList = Dl (Ej 0 (Aq es)) -> At U.W s' ([(WL, A9 xs n)] ++ F) -> Keeps [WL] s s' -> R (.ok (.ret (.str txt xt))) s') :
  codeAny (Ak U.W) A (.call (.ref 845) ⟨[.ref WL], []⟩) R s := by
 obtain ⟨N, tk, hN, hT⟩ := H.NT
 have hxl : xs.length = (Aq es).length := by rw [StrsAre.len hW]; simp
 have hwl := Hq es
 have hw900 : (Aq es).length <= 900 := by rw [hwl]; split <;> lia
 have loop : ∀ (m : Nat) (x : Res) (A' : Around) (s1 : Shared), (Aq es).length = m -> A'.handled = none -> A'.depth <= A.depth + 1 -> A'.units <= A.units + 10 -> s.heap.objs.size + 3 <= s1.heap.objs.size ->
   At U.W s1 [(N+884, Op U.P WL (tk+1573) (tk+1575) (.str ⟨#[]⟩ (tk+1574))), (N+884+2, Bz 0 (m : Nat)), (WL, A9 xs n)] -> Keeps [WL] s s1 ->
   (∀ s2 txt xt ta tb tc td kv sv (M K : Nat), s2.heap.objs.size = M + 884 -> s2.toks = K + 1573 -> At U.W s2 [(N+884, B2 U.P WL ta tb tc td (.str txt xt) kv sv)] ->
    (∀ s3, At U.W s3 [] -> Keeps [N+884] s2 s3 -> R (.ok (.ret (.str txt xt))) s3) -> MK U.W A R x.c x.κ (Cb x.t (.ok .next)) s2) ->
   codeAny (Ak U.W) A' (Ar U.P (N+884) (N+884+2)) (fun r s'' => MK U.W A R x.c x.κ (Cb x.t r) s'') s1 := by
  intro m x A' s1 hm hA' hD' hU' hsz H1 K1 fin
  have H1a : At U.W s1 ([(N+884, Op U.P WL (tk+1573) (tk+1575) (.str ⟨#[]⟩ (tk+1574))), (N+884+2, Bz 0 (m : Nat)), (WL, A9 xs n)] ++ F) := At.next H H1 K1 (fun q hq => by
   simp only [List.mem_cons, List.not_mem_nil, or_false] at hq
   rcases hq with rfl | rfl | rfl
   ·right; dsimp only; lia
   ·right; dsimp only; lia
   ·exact .inl (.head _))
  refine Qp (U := U) (L := N+884) (it := N+884+2) (WL := WL) (n := n) (ta := tk+1573) (tb := tk+1575) (F := F) hW hw900 (fun k u e => P3 hE h2 h5 e) (Ol h2) (Aq es) 0 [] ⟨#[]⟩ (tk+1574) _ A' s1 _ rfl (Nat.zero_le _) rfl (Nat.zero_le _) (fun _ => rfl) (fun h => (h rfl).elim) (.inl ⟨rfl, rfl⟩) hA' (Dv hD' hD) (by lia) (H1a.perm ?_) ?_
  ·rw [hm]
   exact List.Perm.swap _ _ _
  ·intro s2 o2 txt xt fr2 ht hfr H2 K2
   rcases hfr with ⟨h, _⟩ | ⟨_, tc, td, kv, kt, sv, rfl⟩
   ·lia
   have H2a : At U.W s2 ([(N+884, B2 U.P WL (tk+1573) (tk+1575) tc td (.str txt xt) (.int kv kt) sv)] ++ ((N+884+2, o2) :: (WL, A9 xs n) :: F)) := H2.perm (List.Perm.swap _ _ _)
   obtain ⟨M, K, hM, hK⟩ := H2a.NT
   refine fin s2 txt xt _ _ _ _ _ _ M K hM hK H2a.left ?_
   intro s3 H3 K3
   have H3a : At U.W s3 ([] ++ ((N+884+2, o2) :: (WL, A9 xs n) :: F)) := At.next H2a H3 K3 (fun q hq => by cases hq)
   refine cont s3 txt xt (by simpa using ht) (H3a.sub (fun q hq => .tail _ hq) (List.nodup_cons.mp H3a.nd).2) ?_
   refine Keeps.trans_new (X := [WL]) (Y := [N+884, N+884+2]) K1 ((K2.mono ?_).trans (K3.mono ?_)) ?_
   ·intro y hy; simp at hy; rcases hy with h | h | h <;> simp [h]
   ·intro y hy; simp at hy; simp [hy]
   ·intro y hy; simp at hy; lia
 match hn : es.length, h2, h5 with
 | 2, _, _ =>
  have hm : (Aq es).length = 12 := by rw [hwl, hn]; rfl
  refine Aa (F9 (W := [1, 3, 0].zip [_, _, _]) (Xy U N tk WL n xs) hA (dl hD) H.left rfl rfl rfl hN hT rfl rfl (by decide) (by decide) ⟨Ca (by rw [hxl, hm]; rfl) (by lia), trivial⟩ ?_)
  intro s1 H1 K1 _ hsz
  intro A' hA' hD' hU' _
  refine loop 12 _ A' s1 hm hA' hD' hU' (by lia) H1 K1 ?_
  intro s2 txt xt ta tb tc td kv sv M K hM hK H2 fin
  refine C5 (W := []) (Tl U N tk M K WL n ta tb tc td xs txt xt kv sv) hA (dl hD) H2 rfl rfl rfl hM hK rfl rfl List.nodup_nil (by intro j hj; cases hj) trivial ?_
  intro s3 H3 K3 _ _
  exact fin s3 H3 K3
 | 3, _, _ =>
  have hm : (Aq es).length = 23 := by rw [hwl, hn]; rfl
  refine Aa (F9 (W := [1, 3, 0].zip [_, _, _]) (Aai U N tk WL n xs) hA (dl hD) H.left rfl rfl rfl hN hT rfl rfl (by decide) (by decide) ⟨Ca (by rw [hxl, hm]; rfl) (by lia), trivial⟩ ?_)
  intro s1 H1 K1 _ hsz
  intro A' hA' hD' hU' _
  refine loop 23 _ A' s1 hm hA' hD' hU' (by lia) H1 K1 ?_
  intro s2 txt xt ta tb tc td kv sv M K hM hK H2 fin
  refine C5 (W := []) (Vn U N tk M K WL n ta tb tc td xs txt xt kv sv) hA (dl hD) H2 rfl rfl rfl hM hK rfl rfl List.nodup_nil (by intro j hj; cases hj) trivial ?_
  intro s3 H3 K3 _ _
  exact fin s3 H3 K3
 | 4, _, _ =>
  have hm : (Aq es).length = 24 := by rw [hwl, hn]; rfl
  refine Aa (F9 (W := [1, 3, 0].zip [_, _, _]) (Zw U N tk WL n xs) hA (dl hD) H.left rfl rfl rfl hN hT rfl rfl (by decide) (by decide) ⟨Ca (by rw [hxl, hm]; rfl) (by lia), trivial⟩ ?_)
  intro s1 H1 K1 _ hsz
  intro A' hA' hD' hU' _
  refine loop 24 _ A' s1 hm hA' hD' hU' (by lia) H1 K1 ?_
  intro s2 txt xt ta tb tc td kv sv M K hM hK H2 fin
  refine C5 (W := []) (Vt U N tk M K WL n ta tb tc td xs txt xt kv sv) hA (dl hD) H2 rfl rfl rfl hM hK rfl rfl List.nodup_nil (by intro j hj; cases hj) trivial ?_
  intro s3 H3 K3 _ _
  exact fin s3 H3 K3
 | 5, _, _ =>
  have hm : (Aq es).length = 35 := by rw [hwl, hn]; rfl
  refine Aa (F9 (W := [1, 3, 0].zip [_, _, _]) (Y2 U N tk WL n xs) hA (dl hD) H.left rfl rfl rfl hN hT rfl rfl (by decide) (by decide) ⟨Ca (by rw [hxl, hm]; rfl) (by lia), trivial⟩ ?_)
  intro s1 H1 K1 _ hsz
  intro A' hA' hD' hU' _
  refine loop 35 _ A' s1 hm hA' hD' hU' (by lia) H1 K1 ?_
  intro s2 txt xt ta tb tc td kv sv M K hM hK H2 fin
  refine C5 (W := []) (T3 U N tk M K WL n ta tb tc td xs txt xt kv sv) hA (dl hD) H2 rfl rfl rfl hM hK rfl rfl List.nodup_nil (by intro j hj; cases hj) trivial ?_
  intro s3 H3 K3 _ _
  exact fin s3 H3 K3
 | 0, h, _ => lia
 | 1, h, _ => lia
 | n + 6, _, h => lia
end
section
variable {w : World} {A : Around} {s : Shared}
noncomputable abbrev G5 : Value -> Shared -> Prop := fun _ _ => False
theorem Afy {α : Type} {c : Code} {t : Sem α} {Q : α -> Shared -> Prop} {E : Value -> Shared -> Prop} (h : wpOwn (Ak w) A c t Q G5 s) : wpOwn (Ak w) A c t Q E s := wpOwn_mono h (fun _ _ h => h) fun _ _ h => h.elim
theorem Zv {c c' : Code} {v : Value} {di : Nat} {rd wr : List (Nat × Obj)} {nw : List Obj} {f : Value} {args : List Value} {Q : Value -> Shared -> Prop} {E : Value -> Shared -> Prop} (hA : A.handled = none) (hD : A.depth + c.weight <= 900)
  (g : Ac pw w (.call f ⟨args, []⟩) s.toks s.heap.objs.size rd wr nw v di) (hg : s.gens = #[]) (hrd : Rc s.heap rd)
  (h : Q v { s with heap := Ke nw (Mi wr s.heap), toks := s.toks + di }) : wpOwn (Ak w) A c (call f args) Q E s :=
 Cr (wpAny_call (g _ _ _ hA hD hg rfl rfl hrd h))
theorem Pr {elt target Bw c : Expr} {scope : Scope} {pos : Pos} {it acc : Value} {env : Env} (ht : ∀ v, letOwnedTupleGo target it v = pure ())
  (h : wpOwn (Ak w) A (.compLoop (.ListComp elt [⟨target, Bw, [c], 0⟩] scope pos) 0 it acc env) (pyNext it) (fun o s' => match o with
   | none => R (.ok .next) s'
   | some v => wpOwn (Ak w) A (.compLoop (.ListComp elt [⟨target, Bw, [c], 0⟩] scope pos) 0 it acc env) (assign target env v) (fun _ s1 =>
     wpOwn (Ak w) A (.compLoop (.ListComp elt [⟨target, Bw, [c], 0⟩] scope pos) 0 it acc env) (PySem.isTrue c env (PySem.eval c env)) (fun ok s2 => match ok with
      | true => wpOwn (Ak w) A (.compLoop (.ListComp elt [⟨target, Bw, [c], 0⟩] scope pos) 0 it acc env) (PySem.eval elt env) (fun x s3 =>
        wpOwn (Ak w) A (.compLoop (.ListComp elt [⟨target, Bw, [c], 0⟩] scope pos) 0 it acc env) (call (.builtin "list.append") [acc, x]) (fun _ s4 => codeAny (Ak w) A (.compLoop (.ListComp elt [⟨target, Bw, [c], 0⟩] scope pos) 0 it acc env) R s4) G5 s3) G5 s2
      | false => codeAny (Ak w) A (.compLoop (.ListComp elt [⟨target, Bw, [c], 0⟩] scope pos) 0 it acc env) R s2) G5 s1) G5 s') G5 s) :
  codeAny (Ak w) A (.compLoop (.ListComp elt [⟨target, Bw, [c], 0⟩] scope pos) 0 it acc env) R s := by
 refine y_code _ _ _ _ _ _ ?_
 have key : wpOwn (Ak w) A (.compLoop (.ListComp elt [⟨target, Bw, [c], 0⟩] scope pos) 0 it acc env) (compTurn (.ListComp elt [⟨target, Bw, [c], 0⟩] scope pos) 0 it acc env) (postC pw w A R) G5 s := by
  rw [compTurn_list]
  refine wpOwn_bind (Dx (wpOwn_bind (wpOwn_mono h (fun o s' h' => ?_) fun _ _ h => h)))
  cases o with
  | none => exact An h'
  | some v =>
   dsimp only
   rw [ht v]
   refine wpOwn_bind (An (wpOwn_bind (wpOwn_mono h' (fun _ s1 h1 => ?_) fun _ _ h => h)))
   simp only [List.forIn_cons, List.forIn_nil, if_true]
   refine wpOwn_bind (wpOwn_bind (wpOwn_bind (wpOwn_mono h1 (fun ok s2 h2 => An (An ?_)) fun _ _ h => h)))
   cases ok with
   | false => exact An ⟨rfl, h2⟩
   | true =>
    refine wpOwn_bind (wpOwn_bind (wpOwn_mono h2 (fun x s3 h3 => ?_) fun _ _ h => h))
    exact wpOwn_bind (wpOwn_mono h3 (fun _ s4 h4 => An (An ⟨rfl, h4⟩)) fun _ _ h => h)
 show wpOwn (Ak w) A (.compLoop (.ListComp elt [⟨target, Bw, [c], 0⟩] scope pos) 0 it acc env) ((compTurn (.ListComp elt [⟨target, Bw, [c], 0⟩] scope pos) 0 it acc env).onRaise _) _ _ s
 exact Cf (wpOwn_mono key (fun _ _ h => h) fun _ _ h => h.elim)
theorem Pi {elt target Bw : Expr} {scope : Scope} {pos : Pos} {it acc : Value} {env : Env} (ht : ∀ v, letOwnedTupleGo target it v = pure ())
  (h : wpOwn (Ak w) A (.compLoop (.ListComp elt [⟨target, Bw, [], 0⟩] scope pos) 0 it acc env) (pyNext it) (fun o s' => match o with
   | none => R (.ok .next) s'
   | some v => wpOwn (Ak w) A (.compLoop (.ListComp elt [⟨target, Bw, [], 0⟩] scope pos) 0 it acc env) (assign target env v) (fun _ s1 =>
     wpOwn (Ak w) A (.compLoop (.ListComp elt [⟨target, Bw, [], 0⟩] scope pos) 0 it acc env) (PySem.eval elt env) (fun x s3 =>
      wpOwn (Ak w) A (.compLoop (.ListComp elt [⟨target, Bw, [], 0⟩] scope pos) 0 it acc env) (call (.builtin "list.append") [acc, x]) (fun _ s4 => codeAny (Ak w) A (.compLoop (.ListComp elt [⟨target, Bw, [], 0⟩] scope pos) 0 it acc env) R s4) G5 s3) G5 s1) G5 s') G5 s) :
  codeAny (Ak w) A (.compLoop (.ListComp elt [⟨target, Bw, [], 0⟩] scope pos) 0 it acc env) R s := by
 refine y_code _ _ _ _ _ _ ?_
 have key : wpOwn (Ak w) A (.compLoop (.ListComp elt [⟨target, Bw, [], 0⟩] scope pos) 0 it acc env) (compTurn (.ListComp elt [⟨target, Bw, [], 0⟩] scope pos) 0 it acc env) (postC pw w A R) G5 s := by
  rw [compTurn_list1]
  refine wpOwn_bind (Dx (wpOwn_bind (wpOwn_mono h (fun o s' h' => ?_) fun _ _ h => h)))
  cases o with
  | none => exact An h'
  | some v =>
   dsimp only
   rw [ht v]
   refine wpOwn_bind (An (wpOwn_bind (wpOwn_mono h' (fun _ s1 h1 => ?_) fun _ _ h => h)))
   refine wpOwn_bind (wpOwn_bind (wpOwn_mono h1 (fun x s3 h3 => ?_) fun _ _ h => h))
   exact wpOwn_bind (wpOwn_mono h3 (fun _ s4 h4 => An (An ⟨rfl, h4⟩)) fun _ _ h => h)
 show wpOwn (Ak w) A (.compLoop (.ListComp elt [⟨target, Bw, [], 0⟩] scope pos) 0 it acc env) ((compTurn (.ListComp elt [⟨target, Bw, [], 0⟩] scope pos) 0 it acc env).onRaise _) _ _ s
 exact Cf (wpOwn_mono key (fun _ _ h => h) fun _ _ h => h.elim)
end
section
variable {w : World} {A : Around} {s : Shared} {c : Code} {E : Value -> Shared -> Prop}
theorem Dj {test : Expr} {body orelse : List Stmt} {env : Env}
  (h : wpOwn (Ak w) A (.whileLoop test body orelse env) (PySem.isTrue test env (PySem.eval test env)) (fun b s1 => match b with
   | true => wpOwn (Ak w) A (.whileLoop test body orelse env) (PySem.execs body env) (fun f s2 => match f with
    | .next | .cont => codeAny (Ak w) A (.whileLoop test body orelse env) R s2
    | .brk => R (.ok .next) s2
    | .ret v => R (.ok (.ret v)) s2) G5 s1
   | false => wpOwn (Ak w) A (.whileLoop test body orelse env) (PySem.execs orelse env) (fun f s2 => R (.ok f) s2) G5 s1) G5 s) :
  codeAny (Ak w) A (.whileLoop test body orelse env) R s := by
 refine y_code _ _ _ _ _ _ ?_
 have key : wpOwn (Ak w) A (.whileLoop test body orelse env) (whileTurn test body orelse env) (postC pw w A R) G5 s := by
  show wpOwn (Ak w) A _ (PySem.isTrue test env (PySem.eval test env) >>= fun b => if b = true then (PySem.execs body env >>= fun f => match f with
    | .next | .cont => again (.whileLoop test body orelse env)
    | .brk => pure (.done .next)
    | .ret v => pure (.done (.ret v))) else (PySem.execs orelse env >>= fun f => pure (.done f))) _ _ s
  refine wpOwn_bind (wpOwn_mono h (fun b s1 h1 => ?_) fun _ _ h => h)
  cases b with
  | false =>
   rw [if_neg Bool.false_ne_true]
   exact wpOwn_bind (wpOwn_mono h1 (fun f s2 h2 => An h2) fun _ _ h => h)
  | true =>
   rw [if_pos rfl]
   refine wpOwn_bind (wpOwn_mono h1 (fun f s2 h2 => ?_) fun _ _ h => h)
   cases f with
   | next => exact An ⟨rfl, h2⟩
   | cont => exact An ⟨rfl, h2⟩
   | brk => exact An h2
   | ret v => exact An h2
 show wpOwn (Ak w) A (.whileLoop test body orelse env) ((whileTurn test body orelse env).onRaise _) _ _ s
 exact Cf (wpOwn_mono key (fun _ _ h => h) fun _ _ h => h.elim)
theorem Fr {test : Expr} {body orelse : List Stmt} {pos : Pos} {env : Env} {Q : Flow -> Shared -> Prop}
  (h : wpOwn (Ak w) A c (PySem.isTrue test env (PySem.eval test env)) (fun b s1 => match b with
   | true => wpOwn (Ak w) A c (PySem.execs body env) Q E s1
   | false => wpOwn (Ak w) A c (PySem.execs orelse env) Q E s1) E s) :
  wpOwn (Ak w) A c (PySem.exec (.If test body orelse pos) env) Q E s := by
 show wpOwn (Ak w) A c (standAt pos >>= fun _ => PySem.isTrue test env (PySem.eval test env) >>= fun b => if b = true then PySem.execs body env else PySem.execs orelse env) Q E s
 refine wpOwn_bind (Dx (wpOwn_bind (wpOwn_mono h (fun b s1 h1 => ?_) fun _ _ h => h)))
 cases b with
 | false => rw [if_neg Bool.false_ne_true]; exact h1
 | true => rw [if_pos rfl]; exact h1
theorem Pf {x y : Str} {t u : Nat} {Q : Value -> Shared -> Prop} (h0 : (t == 0 || u == 0) = false) (htu : (t == u) = false) (hxy : (x == y) = false) (h : Q (.bool true) s) :
  wpOwn (Ak w) A c (compareOp .IsNot (.str x t) (.str y u)) Q E s := by
 show wpOwn (Ak w) A c (isSame (.str x t) (.str y u) >>= fun b => pure (.bool (!b))) Q E s
 rw [isSame_str_other x y t u h0 htu hxy]
 exact wpOwn_bind (An (An h))
theorem Fm {v1 l r : Expr} {p1 p2 : Pos} {env : Env} {x y : Str} {u : Nat} {Q : Bool -> Shared -> Prop} {e : Sem Value} (hm : behindInMarks .IsNot r = false)
  (h : wpOwn (Ak w) A c (PySem.isTrue v1 env (PySem.eval v1 env)) (fun b s1 => b = false /\ wpOwn (Ak w) A c (PySem.eval l env) (fun a s2 => ∃ t, a = .str x t /\ wpOwn (Ak w) A c (PySem.eval r env) (fun b s3 =>
   b = .str y u /\ (t == 0 || u == 0) = false /\ (t == u) = false /\ (x == y) = false /\ Q true s3) E s2) E s1) E s) :
  wpOwn (Ak w) A c (PySem.isTrue (.BoolOp .Or [v1, .Compare l [.IsNot] [r] p1] p2) env e) Q E s := by
 show wpOwn (Ak w) A c (PySem.isTrue v1 env (PySem.eval v1 env) >>= fun b => match BoolOp.Or, b with
  | .And, false => pure false
  | .Or, true => pure true
  | _, _ => (PySem.isTrue (.Compare l [.IsNot] [r] p1) env (PySem.eval (.Compare l [.IsNot] [r] p1) env) >>= fun b => match BoolOp.Or, b with
   | .And, false => pure false
   | .Or, true => pure true
   | _, _ => pure (BoolOp.Or == .And))) Q E s
 refine wpOwn_bind (wpOwn_mono h (fun b s1 h1 => ?_) fun _ _ h => h)
 obtain ⟨rfl, h1⟩ := h1
 refine wpOwn_bind ?_
 show wpOwn (Ak w) A c (PySem.eval l env >>= fun a => testChain p1 a [.IsNot] [match behindInMarks .IsNot r with | true => _ | false => PySem.eval r env]) _ E s1
 rw [hm]
 refine wpOwn_bind (wpOwn_mono h1 (fun a s2 h2 => ?_) fun _ _ h => h)
 obtain ⟨t, rfl, h2⟩ := h2
 show wpOwn (Ak w) A c (holding [.str x t] (PySem.eval r env) >>= fun rv => standAt p1 >>= fun _ => operate [.str x t, rv] (compareOp .IsNot (.str x t) rv) >>= fun cv => holding [cv] (truthy cv)) _ E s2
 refine wpOwn_bind (Ce (wpOwn_mono h2 (fun b s3 h3 => ?_) fun _ _ h => h))
 obtain ⟨rfl, h0, htu, hxy, hQ⟩ := h3
 refine wpOwn_bind (Dx (wpOwn_bind (El (Pf h0 htu hxy (Ce ?_)))))
 show wpOwn (Ak w) A c (pure true) _ E s3
 exact An (An hQ)
end
noncomputable def Agc : List Nat := [115, 116, 97, 114]
noncomputable def Zi : List Nat := [112, 108, 97, 99, 101, 115]
noncomputable def Vy : List Nat := [112, 108, 97, 99, 101]
noncomputable abbrev Kw (P : Params) (t : Nat) (v : Value) : Obj := ⟨.type "dict", none, .dict #[Dz P Vy t v] 1, #[]⟩
noncomputable def Aj : List Nat := [109, 97, 110, 121]
noncomputable def Ex (P : Params) (t1 t2 t3 : Nat) (pv sv plv : Value) : Obj := A0 [Dz P L6 t1 pv, Dz P Agc t2 sv, Dz P Zi t3 plv] 3
noncomputable def A7 (ov : Option Value) : Obj := ⟨.type "cell", none, .cell ov, #[]⟩
noncomputable def Dw (X : Nat) : Obj := ⟨.none, none, .fields #[.int 106 0, .int 39 0, .ref X], #[]⟩
noncomputable def Anr (s : Str) (t : Nat) (i : Int) : Obj := ⟨.type "str_ascii_iterator", none, .fields #[.str s t, .int i 0], #[]⟩
noncomputable def Ed (P : Params) : Stmt := B5 (Bl P 864) 2
noncomputable def C4 (P : Params) (L CH CP : Nat) : Env := { D5 P 864 863 L with cells := [(⟨#[112, 97, 114, 116]⟩, CP), (⟨#[104, 111, 115, 116]⟩, CH)] }
noncomputable def Bx (P : Params) (L CH CP it : Nat) : Code := .forLoop (Fi (Ed P)) (.ref it) (Eb (Ed P)) (L8 (Ed P)) (C4 P L CH CP)
noncomputable def Fx : Stmt -> Expr | .If t .. => t | _ => .Name ⟨#[]⟩ ⟨0, 0, 0, 0⟩
noncomputable def Mf (P : Params) : Stmt := B5 (Eb (Ed P)) 0
noncomputable def Bd (P : Params) : Stmt := B5 (Wj (Mf P)) 0
noncomputable def Aeu (P : Params) : Stmt := B5 (ifE (Mf P)) 0
noncomputable def Sl : Expr -> Expr | .IfExp t _ _ _ => t | e => e
noncomputable def ieB : Expr -> Expr | .IfExp _ b _ _ => b | e => e
noncomputable def ieO : Expr -> Expr | .IfExp _ _ o _ => o | e => e
noncomputable def Bv (P : Params) : Expr := F2 (Aeu P)
noncomputable def O8 : Expr -> Expr | .ListComp e _ _ _ => e | e => e
noncomputable def lcG : Expr -> List Comprehension | .ListComp _ g _ _ => g | _ => []
noncomputable def Nu : Expr -> Expr | .ListComp _ (⟨t, _, _, _⟩ :: _) _ _ => t | e => e
noncomputable def X1 : Expr -> Expr | .ListComp _ (⟨_, i, _, _⟩ :: _) _ _ => i | e => e
noncomputable def J1 : Expr -> Expr | .ListComp _ (⟨_, _, c :: _, _⟩ :: _) _ _ => c | e => e
noncomputable def Rs : Expr -> Scope | .ListComp _ _ s _ => s | _ => default
noncomputable def Z3 : Expr -> Pos | .ListComp _ _ _ p => p | _ => ⟨0, 0, 0, 0⟩
noncomputable def C1 (P : Params) (L CH CP D : Nat) : Env := { C4 P L CH CP with scope := { Rs (Bv P) with names := (Rs (Bv P)).names.map fun (n, k) => if k == .free && (n == ⟨#[112, 97, 114, 116]⟩ || n == ⟨#[104, 111, 115, 116]⟩) then (n, .cell) else (n, k) }, locals := D, func := none }
noncomputable def Mv (P : Params) (L CH CP D it acc : Nat) : Code := .compStart (Bv P) 0 (.ref it) (.ref acc) (C1 P L CH CP D)
noncomputable def Be (P : Params) (L CH CP D it acc : Nat) : Code := .compLoop (Bv P) 0 (.ref it) (.ref acc) (C1 P L CH CP D)
noncomputable def Le (e : Expr) (env : Env) : Sem Fin := PySem.W.R.bindR (Ks e env) fun v => .pure (.done (.ret v))
noncomputable def Ei (e : Expr) (env : Env) : Sem Fin := PySem.W.R.bindR (Ma e env (Ks e env)) fun b => .pure (.done (.ret (.bool b)))
noncomputable def Wm (t : Expr) (env : Env) (v : Value) : Sem Fin := PySem.W.R.bindR (Go t env v) fun _ => .pure (.done .next)
noncomputable def Nx (b : List Stmt) (env : Env) : Sem Fin := PySem.W.R.bindR (Hj b env) fun f => .pure (.done f)
noncomputable def trS (s : Stmt) (env : Env) (cv : Value) : Sem Fin := PySem.W.R.bindR (PySem.W.R.bindR (F5 (Wl s) (F2 s) env) fun sw => Gp env cv sw ((D7 (Wl s) env).map (·.2))) fun f => .pure (.done f)
section
variable (U : Fl) (w : World) (b1 b2 : Bool) (N tk : Nat)
noncomputable abbrev Is (pat host : Str) (tp th : Nat) : Res := Ay 340 U.W [] 0 N tk [] [] 83 (x2 0x20110111100221101) (.call (.ref 864) ⟨[.str pat tp, .str host th], []⟩) .base (.pure (.again (.call (.ref 864) ⟨[.str pat tp, .str host th], []⟩)))
theorem Adk (pat host : Str) (tp th : Nat) : Ec 340 U.W [] 0 N tk [] [] 83 (x2 0x20110111100221101) (.call (.ref 864) ⟨[.str pat tp, .str host th], []⟩) [0, 1, 2, 3] (.call (.call (.ref 110) ⟨[.str pat tp, .str y2 (tk+1574), .str y1 (tk+1578)], []⟩) 1) (om [(zF U.P [⟨⟨#[112, 97, 116, 116, 101, 114, 110]⟩, (tk+1573), .str pat tp⟩, ⟨⟨#[115, 116, 97, 114]⟩, (tk+1575), .str y2 (tk+1574)⟩, ⟨⟨#[112, 108, 97, 99, 101, 115]⟩, (tk+1577), .ref (N+884+3)⟩] 3), ⟨.type "cell", none, .cell (some (.str host th)), #[]⟩, ⟨.type "cell", none, .cell none, #[]⟩, (zl [.int (0) (tk+1576)] 0)]) 4 6
  [] := by
 kernel_rfl
theorem Af1 (tp : Nat) : Ec 340 U.W [] 0 N tk [] [] 918 (x2 0x1001100110222022230311f0000000000000ff000000ff00000ff0ff01010100100100111001110011001102220222303e000000000000c00000c0000cc01010100100100111001110011001102220222303b0000000000009000009000099010101001001001110011100110011022202223030000000000000000000000000000080000080000880101010010010011100111001100110222022230311202020221001110011100110011011117554550505554550505554550505504044400001001120022202021110011111101) (.call (.ref 110) ⟨[.str y61 tp, .str ⟨⟨Aj⟩⟩ (tk+1568), .str y1 (tk+1572)], []⟩) [1] (.fin (.ret (.ref (N+884+1)))) (om [A9 [.str y2 (tk+1568), .str Nv (tk+1605), .str Sz (tk+1617), .str ⟨#[114]⟩ (tk+1629), .str ⟨#[103]⟩ (tk+1641)] 5]) 17 69
  [] := by
 obtain ⟨b, _⟩ := U; cases b <;> kernel_rfl
noncomputable abbrev Iz (pat host : Str) (tp th M K RL n : Nat) (vs : List Value) (fr : Obj) : Res := Ay 340 U.W [RL] 1 M K [] [A9 vs n] 51 (x2 0x2201011) (Is U N tk pat host tp th).c (Is U N tk pat host tp th).κ (Cb (Is U N tk pat host tp th).t (.ok (.ret (.ref RL))))
theorem Ach (pat host : Str) (tp th M K RL n : Nat) (vs : List Value) (fr : Obj) : Ev 340 U.W [RL] 1 M K [] [A9 vs n] 51 (x2 0x2201011) (Is U N tk pat host tp th).c (Is U N tk pat host tp th).κ (Cb (Is U N tk pat host tp th).t (.ok (.ret (.ref RL)))) [0, 1] (.call (Bx U.P (N+884) (N+884+1) (N+884+2) (M+884)) 1) (om [A9 vs n, Bh RL 0 none #[]]) 1 0
  [] := by
 obtain ⟨b, _⟩ := U; cases b <;> kernel_rfl
theorem Ald (L CH CP it pk : Nat) (part : Str) (ov : Option Value) : Ev 340 U.W [CP] 1 N tk [] [A7 none] 45 0x0101 (Bx U.P L CH CP it) .base (Wm (Fi (Ed U.P)) (C4 U.P L CH CP) (.str part pk)) [0] (.fin .next) (om [A7 (some (.str part pk))]) 0 0
  [] := by
 kernel_rfl
theorem Am1 (L CH CP it t1 t2 t3 tp ts PL : Nat) (pat : Str) : Es 340 U.W [L, CP] 2 N tk [] [Ex U.P t1 t2 t3 (.str pat tp) (.str ⟨⟨Aj⟩⟩ ts) (.ref PL), A7 (some (.str ⟨⟨Aj⟩⟩ ts))] 49 0x00000102 (Bx U.P L CH CP it) .base (Ei (Fx (Mf U.P)) (C4 U.P L CH CP)) [0, 1] (.fin (.ret (.bool true))) 0 0
  [] := by
 obtain ⟨b, _⟩ := U; cases b <;> kernel_rfl
theorem Afl (L CH CP it t1 t2 t3 tp ts PL : Nat) (pat : Str) : Es 340 U.W [L] 1 N tk [] [Ex U.P t1 t2 t3 (.str pat tp) (.str ⟨⟨Aj⟩⟩ ts) (.ref PL)] 42 0x01 (Bx U.P L CH CP it) .base (Le (C2 (Sl (F2 (Bd U.P)))) (C4 U.P L CH CP)) [0] (.fin (.ret (.ref PL))) 0 0
  [] := by
 kernel_rfl
theorem Ada (L CH CP it : Nat) : Ev 340 U.W [] 0 N tk [] [] 42 0x0 (Bx U.P L CH CP it) .base (Le (Bi (Sl (F2 (Bd U.P)))) (C4 U.P L CH CP)) [0] (.fin (.ret (.ref (N+884)))) (om [A9 [] 0]) 1 0
  [] := by
 kernel_rfl
theorem Af0 (L CH CP it : Nat) : Ev 340 U.W [] 0 N tk [] [] 42 0x0 (Bx U.P L CH CP it) .base (Le (ieO (F2 (Bd U.P))) (C4 U.P L CH CP)) [0] (.fin (.ret (.ref (N+884)))) (om [A9 [] 0]) 1 0
  [] := by
 kernel_rfl
noncomputable abbrev Ajk : Nat := (x2 0x28080880000000fef020055574434404045055544344040450403033001000000)
noncomputable abbrev Pj (L CH CP it t1 t2 t3 tp ts th PL m pk0 : Nat) (pat host : Str) (p : Int) : Res := Ay 340 U.W [L, CH, PL] 3 N tk [.u ⟨.int (host.length : Int) (tk+1574), 2, [], [], []⟩] [Ex U.P t1 t2 t3 (.str pat tp) (.str ⟨⟨Aj⟩⟩ ts) (.ref PL), A7 (some (.str host th)), A9 [.int p pk0] m] 135 Ajk (Bx U.P L CH CP it) .base (Le (ieB (F2 (Bd U.P))) (C4 U.P L CH CP))
theorem Adu (L CH CP it t1 t2 t3 tp ts th PL m pk0 : Nat) (pat host : Str) (p : Int) : Ev 340 U.W [L, CH, PL] 3 N tk [.u ⟨.int (host.length : Int) (tk+1574), 2, [], [], []⟩] [Ex U.P t1 t2 t3 (.str pat tp) (.str ⟨⟨Aj⟩⟩ ts) (.ref PL), A7 (some (.str host th)), A9 [.int p pk0] m] 135 Ajk (Bx U.P L CH CP it) .base (Le (ieB (F2 (Bd U.P))) (C4 U.P L CH CP)) [0, 1, 2, 7] (.call (.call (.type "list") ⟨[.ref (N+884+4)], []⟩) 1) (om [Ex U.P t1 t2 t3 (.str pat tp) (.str ⟨⟨Aj⟩⟩ ts) (.ref PL), A7 (some (.str host th)), A9 [.int p pk0] m, ⟨.type "range", none, .fields #[.int p pk0, .int ((host.length : Int) + (1)) (tk+1576), .int (1) (tk+1577)], #[]⟩]) 5 5
  [Ac pw U.W (.builtin "len" ⟨[.str host th], []⟩) (tk+1573) (N+884+4) [] [] [] (.int (host.length : Int) (tk+1574)) 2] := by
 obtain ⟨b, _⟩ := U; cases b <;> kernel_rfl
theorem Ae9 (L CH CP it t1 t2 t3 tp ts th PL m pk0 : Nat) (pat host : Str) (p : Int) (X Y V : Nat) : Ev 340 U.W [] 0 X Y [] [] 41 0x0 (Pj U N tk L CH CP it t1 t2 t3 tp ts th PL m pk0 pat host p).c (Pj U N tk L CH CP it t1 t2 t3 tp ts th PL m pk0 pat host p).κ (Cb (Pj U N tk L CH CP it t1 t2 t3 tp ts th PL m pk0 pat host p).t (.ok (.ret (.ref V)))) [] (.fin (.ret (.ref V))) (om []) 0 0
  [] := by
 obtain ⟨b, _⟩ := U; cases b <;> kernel_rfl
theorem Ad2 (L CH CP it t1 t2 t3 tp ts PL V : Nat) (pat : Str) : Ev 340 U.W [L] 1 N tk [] [Ex U.P t1 t2 t3 (.str pat tp) (.str ⟨⟨Aj⟩⟩ ts) (.ref PL)] 47 0x0101 (Bx U.P L CH CP it) .base (trS (Bd U.P) (C4 U.P L CH CP) (.ref V)) [0] (.fin .next) (om [Ex U.P t1 t2 t3 (.str pat tp) (.str ⟨⟨Aj⟩⟩ ts) (.ref V)]) 0 1
  [] := by
 kernel_rfl
theorem Xq (L CH CP it pk : Nat) (part : Str) (ov : Option Value) : Ev 340 U.W [CP] 1 N tk [] [A7 ov] 45 0x0101 (Bx U.P L CH CP it) .base (Wm (Fi (Ed U.P)) (C4 U.P L CH CP) (.str part pk)) [0] (.fin .next) (om [A7 (some (.str part pk))]) 0 0
  [] := by
 kernel_rfl
noncomputable abbrev Fs (L CH CP it t1 t2 t3 tp ts PL m pk : Nat) (pat part : Str) (vs : List Value) : Res := Ay 340 U.W [L, CP, PL] 3 N tk [] [Ex U.P t1 t2 t3 (.str pat tp) (.str ⟨⟨Aj⟩⟩ ts) (.ref PL), A7 (some (.str part pk)), A9 vs m] 65 (x2 0x240303314012) (Bx U.P L CH CP it) .base (Nx (Eb (Ed U.P)) (C4 U.P L CH CP))
theorem Ac0 (L CH CP it t1 t2 t3 tp ts PL m pk : Nat) (pat part : Str) (vs : List Value) : Ev 340 U.W [L, CP, PL] 3 N tk [] [Ex U.P t1 t2 t3 (.str pat tp) (.str ⟨⟨Aj⟩⟩ ts) (.ref PL), A7 (some (.str part pk)), A9 vs m] 65 (x2 0x240303314012) (Bx U.P L CH CP it) .base (Nx (Eb (Ed U.P)) (C4 U.P L CH CP)) [0, 1, 2, 3, 4, 5] (.call (Mv U.P L CH CP (N+884+2) (N+884) (N+884+1)) 1) (om [Ex U.P t1 t2 t3 (.str pat tp) (.str ⟨⟨Aj⟩⟩ ts) (.ref PL), A7 (some (.str part pk)), A9 vs m, Bh PL 0 none #[], A9 [] 0, ⟨.type "dict", none, .dict #[] 0, #[]⟩]) 3 0
  [Bo part ⟨#[109, 97, 110, 121]⟩ = false] := by
 obtain ⟨b, _⟩ := U; cases b <;> kernel_rfl
theorem Yb (L CH CP D cit acc td ik : Nat) (i : Int) (old : Value) : Ev 340 U.W [D] 1 N tk [] [⟨.type "dict", none, .dict #[] 0, #[]⟩] 47 0x0101 (Be U.P L CH CP D cit acc) .base (Wm (Nu (Bv U.P)) (C1 U.P L CH CP D) (.int i ik)) [0] (.fin .next) (om [(Kw U.P (tk+1573) (.int i ik))]) 0 1
  [] := by
 kernel_rfl
noncomputable abbrev W8 : Nat := (x2 0x4044fef0004004003fef040040044440102fef013201fef00fef03001)
theorem Ib (L CH CP D cit acc td ik th pk : Nat) (i : Int) (host : Str) (c : Nat) (cpo : Obj) : Es 340 U.W [D, CP, CH] 3 N tk [.u ⟨.int (host.length : Int) (tk+1574), 2, [], [], []⟩, .u ⟨.bool true, 0, [], [], []⟩, .u ⟨.str ⟨#[c]⟩ (tk+1575), 1, [], [], []⟩, .u ⟨.str ⟨#[92]⟩ (tk+1580), 1, [], [], []⟩, .u ⟨.str ⟨#[46]⟩ (tk+1585), 1, [], [], []⟩] [(Kw U.P td (.int i ik)), A7 (some (.str Nv pk)), A7 (some (.str host th))] 132 W8 (Be U.P L CH CP D cit acc) .base (Ei (J1 (Bv U.P)) (C1 U.P L CH CP D)) [0, 1, 2] (.fin (.ret (.bool false))) 1 13
  [Bo ⟨#[46]⟩ ⟨#[c]⟩ = false, Ac pw U.W (.builtin "str.__getitem__" ⟨[.str ⟨#[92, 46]⟩ pk, .int (-1) (tk+1584)], []⟩) (tk+1585) (N+884+1) [] [] [] (.str ⟨#[46]⟩ (tk+1585)) 1, Ac pw U.W (.builtin "str.__getitem__" ⟨[.str ⟨#[92, 46]⟩ pk, .int (0) (tk+1579)], []⟩) (tk+1580) (N+884+1) [] [] [] (.str ⟨#[92]⟩ (tk+1580)) 1, Ac pw U.W (.builtin "str.__getitem__" ⟨[.str host th, .int i ik], []⟩) (tk+1575) (N+884) [] [] [] (.str ⟨#[c]⟩ (tk+1575)) 1, Ac pw U.W (.builtin "int.__lt__" ⟨[.int i ik, .int (host.length : Int) (tk+1574)], []⟩) (tk+1575) (N+884) [] [] [] (.bool true) 0, Ac pw U.W (.builtin "len" ⟨[.str host th], []⟩) (tk+1573) (N+884) [] [] [] (.int (host.length : Int) (tk+1574)) 2] := by
 obtain ⟨b, _⟩ := U; cases b <;> kernel_rfl
theorem Zx (L CH CP D cit acc td ik : Nat) (i : Int) (old : Value) : Ev 340 U.W [D] 1 N tk [] [(Kw U.P td (old))] 47 0x0101 (Be U.P L CH CP D cit acc) .base (Wm (Nu (Bv U.P)) (C1 U.P L CH CP D) (.int i ik)) [0] (.fin .next) (om [(Kw U.P td (.int i ik))]) 0 1
  [] := by
 kernel_rfl
noncomputable abbrev Hx7 : Nat := (x2 0x6044fef0004004003fef040040044440102fef013201fef00fef03001)
theorem J4 (L CH CP D cit acc td ik th pk : Nat) (i : Int) (host : Str) (c : Nat) (cpo : Obj) : Es 340 U.W [D, CP, CH] 3 N tk [.u ⟨.int (host.length : Int) (tk+1574), 2, [], [], []⟩, .u ⟨.bool true, 0, [], [], []⟩, .u ⟨.str ⟨#[c]⟩ (tk+1575), 1, [], [], []⟩, .u ⟨.str ⟨#[92]⟩ (tk+1580), 1, [], [], []⟩, .u ⟨.str ⟨#[46]⟩ (tk+1585), 1, [], [], []⟩] [(Kw U.P td (.int i ik)), A7 (some (.str Nv pk)), A7 (some (.str host th))] 132 Hx7 (Be U.P L CH CP D cit acc) .base (Ei (J1 (Bv U.P)) (C1 U.P L CH CP D)) [0, 1, 2] (.fin (.ret (.bool true))) 1 13
  [Bo ⟨#[46]⟩ ⟨#[c]⟩ = true, Ac pw U.W (.builtin "str.__getitem__" ⟨[.str ⟨#[92, 46]⟩ pk, .int (-1) (tk+1584)], []⟩) (tk+1585) (N+884+1) [] [] [] (.str ⟨#[46]⟩ (tk+1585)) 1, Ac pw U.W (.builtin "str.__getitem__" ⟨[.str ⟨#[92, 46]⟩ pk, .int (0) (tk+1579)], []⟩) (tk+1580) (N+884+1) [] [] [] (.str ⟨#[92]⟩ (tk+1580)) 1, Ac pw U.W (.builtin "str.__getitem__" ⟨[.str host th, .int i ik], []⟩) (tk+1575) (N+884) [] [] [] (.str ⟨#[c]⟩ (tk+1575)) 1, Ac pw U.W (.builtin "int.__lt__" ⟨[.int i ik, .int (host.length : Int) (tk+1574)], []⟩) (tk+1575) (N+884) [] [] [] (.bool true) 0, Ac pw U.W (.builtin "len" ⟨[.str host th], []⟩) (tk+1573) (N+884) [] [] [] (.int (host.length : Int) (tk+1574)) 2] := by
 obtain ⟨b, _⟩ := U; cases b <;> kernel_rfl
theorem Ac6 (L CH CP D cit acc td ik : Nat) (i : Int) : Es 340 U.W [D] 1 N tk [] [(Kw U.P td (.int i ik))] 48 0x000001 (Be U.P L CH CP D cit acc) .base (Le (O8 (Bv U.P)) (C1 U.P L CH CP D)) [0] (.fin (.ret (.int (i + (1)) (tk+1574)))) 0 2
  [] := by
 kernel_rfl
theorem V2 (L CH CP D cit acc td ik th pk : Nat) (i : Int) (host : Str) (c : Nat) (cpo : Obj) : Es 340 U.W [D, CP, CH] 3 N tk [.u ⟨.int (host.length : Int) (tk+1574), 2, [], [], []⟩, .u ⟨.bool false, 0, [], [], []⟩] [(Kw U.P td (.int i ik)), cpo, A7 (some (.str host th))] 55 (x2 0x1fef00fef03001) (Be U.P L CH CP D cit acc) .base (Ei (J1 (Bv U.P)) (C1 U.P L CH CP D)) [0, 1, 2] (.fin (.ret (.bool false))) 0 2
  [Ac pw U.W (.builtin "int.__lt__" ⟨[.int i ik, .int (host.length : Int) (tk+1574)], []⟩) (tk+1575) (N+884) [] [] [] (.bool false) 0, Ac pw U.W (.builtin "len" ⟨[.str host th], []⟩) (tk+1573) (N+884) [] [] [] (.int (host.length : Int) (tk+1574)) 2] := by
 obtain ⟨b, _⟩ := U; cases b <;> kernel_rfl
theorem Z0 (L CH CP it t1 t2 t3 tp ts PL m pk : Nat) (pat part : Str) (vs : List Value) (M K td ik : Nat) (i : Int) : Ev 340 U.W [L, (N+884+2)] 2 M K [] [Ex U.P t1 t2 t3 (.str pat tp) (.str ⟨⟨Aj⟩⟩ ts) (.ref PL), (Kw U.P td (.int i ik))] 53 0x0202020101 (Fs U N tk L CH CP it t1 t2 t3 tp ts PL m pk pat part vs).c (Fs U N tk L CH CP it t1 t2 t3 tp ts PL m pk pat part vs).κ (Cb (Fs U N tk L CH CP it t1 t2 t3 tp ts PL m pk pat part vs).t (.ok .next)) [0] (.fin .next) (om [Ex U.P t1 t2 t3 (.str pat tp) (.str ⟨⟨Aj⟩⟩ ts) (.ref (N+884+1))]) 0 1
  [] := by
 obtain ⟨b, _⟩ := U; cases b <;> kernel_rfl
theorem Ku (L CH CP D cit acc td ik th pk : Nat) (i : Int) (host : Str) (c : Nat) (cpo : Obj) : Es 340 U.W [D, CP, CH] 3 N tk [.u ⟨.int (host.length : Int) (tk+1574), 2, [], [], []⟩, .u ⟨.bool true, 0, [], [], []⟩, .u ⟨.str ⟨#[c]⟩ (tk+1575), 1, [], [], []⟩, .u ⟨.str Sz (tk+1580), 1, [], [], []⟩, .u ⟨.str Sz (tk+1585), 1, [], [], []⟩] [(Kw U.P td (.int i ik)), A7 (some (.str Sz pk)), A7 (some (.str host th))] 132 Hx7 (Be U.P L CH CP D cit acc) .base (Ei (J1 (Bv U.P)) (C1 U.P L CH CP D)) [0, 1, 2] (.fin (.ret (.bool true))) 1 13
  [Bo ⟨#[111]⟩ ⟨#[c]⟩ = true, Ac pw U.W (.builtin "str.__getitem__" ⟨[.str ⟨#[111]⟩ pk, .int (-1) (tk+1584)], []⟩) (tk+1585) (N+884+1) [] [] [] (.str ⟨#[111]⟩ (tk+1585)) 1, Ac pw U.W (.builtin "str.__getitem__" ⟨[.str ⟨#[111]⟩ pk, .int (0) (tk+1579)], []⟩) (tk+1580) (N+884+1) [] [] [] (.str ⟨#[111]⟩ (tk+1580)) 1, Ac pw U.W (.builtin "str.__getitem__" ⟨[.str host th, .int i ik], []⟩) (tk+1575) (N+884) [] [] [] (.str ⟨#[c]⟩ (tk+1575)) 1, Ac pw U.W (.builtin "int.__lt__" ⟨[.int i ik, .int (host.length : Int) (tk+1574)], []⟩) (tk+1575) (N+884) [] [] [] (.bool true) 0, Ac pw U.W (.builtin "len" ⟨[.str host th], []⟩) (tk+1573) (N+884) [] [] [] (.int (host.length : Int) (tk+1574)) 2] := by
 obtain ⟨b, _⟩ := U; cases b <;> kernel_rfl
theorem Kh (L CH CP D cit acc td ik th pk : Nat) (i : Int) (host : Str) (c : Nat) (cpo : Obj) : Es 340 U.W [D, CP, CH] 3 N tk [.u ⟨.int (host.length : Int) (tk+1574), 2, [], [], []⟩, .u ⟨.bool true, 0, [], [], []⟩, .u ⟨.str ⟨#[c]⟩ (tk+1575), 1, [], [], []⟩, .u ⟨.str ⟨#[114]⟩ (tk+1580), 1, [], [], []⟩, .u ⟨.str ⟨#[114]⟩ (tk+1585), 1, [], [], []⟩] [(Kw U.P td (.int i ik)), A7 (some (.str ⟨#[114]⟩ pk)), A7 (some (.str host th))] 132 Hx7 (Be U.P L CH CP D cit acc) .base (Ei (J1 (Bv U.P)) (C1 U.P L CH CP D)) [0, 1, 2] (.fin (.ret (.bool true))) 1 13
  [Bo ⟨#[114]⟩ ⟨#[c]⟩ = true, Ac pw U.W (.builtin "str.__getitem__" ⟨[.str ⟨#[114]⟩ pk, .int (-1) (tk+1584)], []⟩) (tk+1585) (N+884+1) [] [] [] (.str ⟨#[114]⟩ (tk+1585)) 1, Ac pw U.W (.builtin "str.__getitem__" ⟨[.str ⟨#[114]⟩ pk, .int (0) (tk+1579)], []⟩) (tk+1580) (N+884+1) [] [] [] (.str ⟨#[114]⟩ (tk+1580)) 1, Ac pw U.W (.builtin "str.__getitem__" ⟨[.str host th, .int i ik], []⟩) (tk+1575) (N+884) [] [] [] (.str ⟨#[c]⟩ (tk+1575)) 1, Ac pw U.W (.builtin "int.__lt__" ⟨[.int i ik, .int (host.length : Int) (tk+1574)], []⟩) (tk+1575) (N+884) [] [] [] (.bool true) 0, Ac pw U.W (.builtin "len" ⟨[.str host th], []⟩) (tk+1573) (N+884) [] [] [] (.int (host.length : Int) (tk+1574)) 2] := by
 obtain ⟨b, _⟩ := U; cases b <;> kernel_rfl
theorem Kg (L CH CP D cit acc td ik th pk : Nat) (i : Int) (host : Str) (c : Nat) (cpo : Obj) : Es 340 U.W [D, CP, CH] 3 N tk [.u ⟨.int (host.length : Int) (tk+1574), 2, [], [], []⟩, .u ⟨.bool true, 0, [], [], []⟩, .u ⟨.str ⟨#[c]⟩ (tk+1575), 1, [], [], []⟩, .u ⟨.str ⟨#[103]⟩ (tk+1580), 1, [], [], []⟩, .u ⟨.str ⟨#[103]⟩ (tk+1585), 1, [], [], []⟩] [(Kw U.P td (.int i ik)), A7 (some (.str ⟨#[103]⟩ pk)), A7 (some (.str host th))] 132 Hx7 (Be U.P L CH CP D cit acc) .base (Ei (J1 (Bv U.P)) (C1 U.P L CH CP D)) [0, 1, 2] (.fin (.ret (.bool true))) 1 13
  [Bo ⟨#[103]⟩ ⟨#[c]⟩ = true, Ac pw U.W (.builtin "str.__getitem__" ⟨[.str ⟨#[103]⟩ pk, .int (-1) (tk+1584)], []⟩) (tk+1585) (N+884+1) [] [] [] (.str ⟨#[103]⟩ (tk+1585)) 1, Ac pw U.W (.builtin "str.__getitem__" ⟨[.str ⟨#[103]⟩ pk, .int (0) (tk+1579)], []⟩) (tk+1580) (N+884+1) [] [] [] (.str ⟨#[103]⟩ (tk+1580)) 1, Ac pw U.W (.builtin "str.__getitem__" ⟨[.str host th, .int i ik], []⟩) (tk+1575) (N+884) [] [] [] (.str ⟨#[c]⟩ (tk+1575)) 1, Ac pw U.W (.builtin "int.__lt__" ⟨[.int i ik, .int (host.length : Int) (tk+1574)], []⟩) (tk+1575) (N+884) [] [] [] (.bool true) 0, Ac pw U.W (.builtin "len" ⟨[.str host th], []⟩) (tk+1573) (N+884) [] [] [] (.int (host.length : Int) (tk+1574)) 2] := by
 obtain ⟨b, _⟩ := U; cases b <;> kernel_rfl
theorem O2 (pat host : Str) (tp th M K RL n X Y : Nat) (vs ps : List Value) (fr : Obj) (t1 t2 t3 ts PL m : Nat) : Es 340 U.W [(N+884), (N+884+1), PL] 3 X Y [.u ⟨.int (host.length : Int) (Y+1574), 2, [], [], []⟩, .u ⟨.bool true, 0, [2], [], []⟩] [Ex U.P t1 t2 t3 (.str pat tp) (.str ⟨⟨Aj⟩⟩ ts) (.ref PL), A7 (some (.str host th)), A9 ps m] 56 (x2 0x1fef3310fef0200) (Iz U N tk pat host tp th M K RL n vs fr).c (Iz U N tk pat host tp th M K RL n vs fr).κ (Cb (Iz U N tk pat host tp th M K RL n vs fr).t (.ok .next)) [0, 1, 2] (.fin (.ret (.bool true))) 0 2
  [Ac pw U.W (.call (.builtin "list.__contains__") ⟨[.ref PL, .int (host.length : Int) (Y+1574)], []⟩) (Y+1575) (X+884) [(PL, A9 ps m)] [] [] (.bool true) 0, Ac pw U.W (.builtin "len" ⟨[.str host th], []⟩) (Y+1573) (X+884) [] [] [] (.int (host.length : Int) (Y+1574)) 2] := by
 obtain ⟨b, _⟩ := U; cases b <;> kernel_rfl
theorem Jo (L CH CP D cit acc td ik th pk : Nat) (i : Int) (host : Str) (c : Nat) (cpo : Obj) : Es 340 U.W [D, CP, CH] 3 N tk [.u ⟨.int (host.length : Int) (tk+1574), 2, [], [], []⟩, .u ⟨.bool true, 0, [], [], []⟩, .u ⟨.str ⟨#[c]⟩ (tk+1575), 1, [], [], []⟩, .u ⟨.str Sz (tk+1580), 1, [], [], []⟩, .u ⟨.str Sz (tk+1585), 1, [], [], []⟩] [(Kw U.P td (.int i ik)), A7 (some (.str Sz pk)), A7 (some (.str host th))] 132 W8 (Be U.P L CH CP D cit acc) .base (Ei (J1 (Bv U.P)) (C1 U.P L CH CP D)) [0, 1, 2] (.fin (.ret (.bool false))) 1 13
  [Bo ⟨#[111]⟩ ⟨#[c]⟩ = false, Ac pw U.W (.builtin "str.__getitem__" ⟨[.str ⟨#[111]⟩ pk, .int (-1) (tk+1584)], []⟩) (tk+1585) (N+884+1) [] [] [] (.str ⟨#[111]⟩ (tk+1585)) 1, Ac pw U.W (.builtin "str.__getitem__" ⟨[.str ⟨#[111]⟩ pk, .int (0) (tk+1579)], []⟩) (tk+1580) (N+884+1) [] [] [] (.str ⟨#[111]⟩ (tk+1580)) 1, Ac pw U.W (.builtin "str.__getitem__" ⟨[.str host th, .int i ik], []⟩) (tk+1575) (N+884) [] [] [] (.str ⟨#[c]⟩ (tk+1575)) 1, Ac pw U.W (.builtin "int.__lt__" ⟨[.int i ik, .int (host.length : Int) (tk+1574)], []⟩) (tk+1575) (N+884) [] [] [] (.bool true) 0, Ac pw U.W (.builtin "len" ⟨[.str host th], []⟩) (tk+1573) (N+884) [] [] [] (.int (host.length : Int) (tk+1574)) 2] := by
 obtain ⟨b, _⟩ := U; cases b <;> kernel_rfl
theorem Wq (L CH CP it t1 t2 t3 tp ts PL m pk : Nat) (pat part : Str) (vs : List Value) (M K td ik : Nat) (i : Int) : Ev 340 U.W [L, (N+884+2)] 2 M K [] [Ex U.P t1 t2 t3 (.str pat tp) (.str ⟨⟨Aj⟩⟩ ts) (.ref PL), ⟨.type "dict", none, .dict #[] 0, #[]⟩] 49 0x020101 (Fs U N tk L CH CP it t1 t2 t3 tp ts PL m pk pat part vs).c (Fs U N tk L CH CP it t1 t2 t3 tp ts PL m pk pat part vs).κ (Cb (Fs U N tk L CH CP it t1 t2 t3 tp ts PL m pk pat part vs).t (.ok .next)) [0] (.fin .next) (om [Ex U.P t1 t2 t3 (.str pat tp) (.str ⟨⟨Aj⟩⟩ ts) (.ref (N+884+1))]) 0 1
  [] := by
 obtain ⟨b, _⟩ := U; cases b <;> kernel_rfl
theorem Mp (pat host : Str) (tp th M K RL n X Y : Nat) (vs ps : List Value) (fr : Obj) (t1 t2 t3 ts PL m : Nat) : Es 340 U.W [(N+884), (N+884+1), PL] 3 X Y [.u ⟨.int (host.length : Int) (Y+1574), 2, [], [], []⟩, .u ⟨.bool false, 0, [2], [], []⟩] [Ex U.P t1 t2 t3 (.str pat tp) (.str ⟨⟨Aj⟩⟩ ts) (.ref PL), A7 (some (.str host th)), A9 ps m] 56 (x2 0x1fef3310fef0200) (Iz U N tk pat host tp th M K RL n vs fr).c (Iz U N tk pat host tp th M K RL n vs fr).κ (Cb (Iz U N tk pat host tp th M K RL n vs fr).t (.ok .next)) [0, 1, 2] (.fin (.ret (.bool false))) 0 2
  [Ac pw U.W (.call (.builtin "list.__contains__") ⟨[.ref PL, .int (host.length : Int) (Y+1574)], []⟩) (Y+1575) (X+884) [(PL, A9 ps m)] [] [] (.bool false) 0, Ac pw U.W (.builtin "len" ⟨[.str host th], []⟩) (Y+1573) (X+884) [] [] [] (.int (host.length : Int) (Y+1574)) 2] := by
 obtain ⟨b, _⟩ := U; cases b <;> kernel_rfl
noncomputable abbrev Agw : Nat := (x2 0x200220022033303334041cf0000000000001af000001af00001af1af0102020020020022200222002200220333033340419f00000000000017f0000017f000017f17f0102020020020022200222002200220333033340416f00000000000014f0000014f000014f14f010202002002002220022200220022033303334040000000000000000000000000000013f0000013f000013f13f0102020020020022200222002200220333033340422000012f012f012f12f002000020020002220022211f11f0011f11f11f11f0000010f0002000111100000022002002229999002220022000022002202200200002200220220020000220022000002200220000220022222002002002220022200220022022228665660606665660606665660606605055500002002230033303032220022222201)
theorem Ph (tp : Nat) : Ec 340 (wf w b1 b2 true) [105] 1 N tk [] [B9] 1305 Agw (.call (.ref 110) ⟨[.str y28 tp, .str ⟨⟨Aj⟩⟩ (tk+1568), .str y1 (tk+1572)], []⟩) [0, 2] (.fin (.ret (.ref (N+884+1)))) (om [Dw (N+884+13), A9 [.str y32 (tk+1640), .str Nv (tk+1654), .str Sz (tk+1666), .str ⟨#[114]⟩ (tk+1678), .str ⟨#[103]⟩ (tk+1690)] 5]) 27 118
  [] := by
 cases b1 <;> kernel_rfl
theorem Q3 (tp : Nat) : Ec 340 (wf w b1 b2 false) [105] 1 N tk [] [B9] 1304 Agw (.call (.ref 110) ⟨[.str y28 tp, .str ⟨⟨Aj⟩⟩ (tk+1568), .str y1 (tk+1572)], []⟩) [0, 2] (.fin (.ret (.ref (N+884+1)))) (om [Dw (N+884+13), A9 [.str y32 (tk+1639), .str Nv (tk+1653), .str Sz (tk+1665), .str ⟨#[114]⟩ (tk+1677), .str ⟨#[103]⟩ (tk+1689)] 5]) 27 117
  [] := by
 cases b1 <;> kernel_rfl
noncomputable abbrev Akz : Nat := (x2 0x4fef048044003fef040040044440102fef013201fef00fef03001)
theorem Fd (L CH CP D cit acc td ik th pk : Nat) (i : Int) (host : Str) (c : Nat) (cpo : Obj) : Es 340 U.W [D, CP, CH] 3 N tk [.u ⟨.int (host.length : Int) (tk+1574), 2, [], [], []⟩, .u ⟨.bool true, 0, [], [], []⟩, .u ⟨.str ⟨#[c]⟩ (tk+1575), 1, [], [], []⟩, .u ⟨.str Uf (tk+1580), 1, [], [], []⟩, .u ⟨.str Hs (tk+1583), 1, [], [], []⟩] [(Kw U.P td (.int i ik)), A7 (some (.str y32 pk)), A7 (some (.str host th))] 130 Akz (Be U.P L CH CP D cit acc) .base (Ei (J1 (Bv U.P)) (C1 U.P L CH CP D)) [0, 1, 2] (.fin (.ret (.bool false))) 1 12
  [Ac pw U.W (.builtin "str.__getitem__" ⟨[.str ⟨#[91, 97, 98, 93]⟩ pk, .int (1) (tk+1582)], []⟩) (tk+1583) (N+884+1) [] [] [] (.str ⟨#[97]⟩ (tk+1583)) 1, Cj ⟨#[91, 97, 98, 93]⟩ ⟨#[c]⟩ = false, Ac pw U.W (.builtin "str.__getitem__" ⟨[.str ⟨#[91, 97, 98, 93]⟩ pk, .int (0) (tk+1579)], []⟩) (tk+1580) (N+884+1) [] [] [] (.str ⟨#[91]⟩ (tk+1580)) 1, Ac pw U.W (.builtin "str.__getitem__" ⟨[.str host th, .int i ik], []⟩) (tk+1575) (N+884) [] [] [] (.str ⟨#[c]⟩ (tk+1575)) 1, Ac pw U.W (.builtin "int.__lt__" ⟨[.int i ik, .int (host.length : Int) (tk+1574)], []⟩) (tk+1575) (N+884) [] [] [] (.bool true) 0, Ac pw U.W (.builtin "len" ⟨[.str host th], []⟩) (tk+1573) (N+884) [] [] [] (.int (host.length : Int) (tk+1574)) 2] := by
 obtain ⟨b, _⟩ := U; cases b <;> kernel_rfl
theorem Fu (L CH CP D cit acc td ik th pk : Nat) (i : Int) (host : Str) (c : Nat) (cpo : Obj) : Es 340 U.W [D, CP, CH] 3 N tk [.u ⟨.int (host.length : Int) (tk+1574), 2, [], [], []⟩, .u ⟨.bool true, 0, [], [], []⟩, .u ⟨.str ⟨#[c]⟩ (tk+1575), 1, [], [], []⟩, .u ⟨.str Uf (tk+1580), 1, [], [], []⟩, .u ⟨.str ⟨#[94]⟩ (tk+1583), 1, [], [], []⟩] [(Kw U.P td (.int i ik)), A7 (some (.str R2 pk)), A7 (some (.str host th))] 130 Akz (Be U.P L CH CP D cit acc) .base (Ei (J1 (Bv U.P)) (C1 U.P L CH CP D)) [0, 1, 2] (.fin (.ret (.bool true))) 1 12
  [Ac pw U.W (.builtin "str.__getitem__" ⟨[.str ⟨#[91, 94, 97, 93]⟩ pk, .int (1) (tk+1582)], []⟩) (tk+1583) (N+884+1) [] [] [] (.str ⟨#[94]⟩ (tk+1583)) 1, Cj ⟨#[91, 94, 97, 93]⟩ ⟨#[c]⟩ = false, Ac pw U.W (.builtin "str.__getitem__" ⟨[.str ⟨#[91, 94, 97, 93]⟩ pk, .int (0) (tk+1579)], []⟩) (tk+1580) (N+884+1) [] [] [] (.str ⟨#[91]⟩ (tk+1580)) 1, Ac pw U.W (.builtin "str.__getitem__" ⟨[.str host th, .int i ik], []⟩) (tk+1575) (N+884) [] [] [] (.str ⟨#[c]⟩ (tk+1575)) 1, Ac pw U.W (.builtin "int.__lt__" ⟨[.int i ik, .int (host.length : Int) (tk+1574)], []⟩) (tk+1575) (N+884) [] [] [] (.bool true) 0, Ac pw U.W (.builtin "len" ⟨[.str host th], []⟩) (tk+1573) (N+884) [] [] [] (.int (host.length : Int) (tk+1574)) 2] := by
 obtain ⟨b, _⟩ := U; cases b <;> kernel_rfl
noncomputable abbrev Ahn : Nat := (x2 0x2002200220333033340416f00000000000014f0000014f000014f14f0102020020020022200222002200220333033340413f00000000000011f0000011f000011f11f0102020020020022200222002200220333033340410f000000000000e00000e0000ee0102020020020022200222002200220333033340400000000000000000000000000000d00000d0000dd01020200200200222002220022002203330333404220000c0c0cc0020000200200022200222bb00bbbb00000a0002000100000022002002229999002220022000022002202200200002200220220020000220022000002200220000220022222002002002220022200220022022228665660606665660606665660606605055500002002230033303032220022222201)
theorem Pv (tp X : Nat) : Ec 340 (wf w b1 b2 true) [105] 1 N tk [] [Dw X] 1290 Ahn (.call (.ref 110) ⟨[.str y28 tp, .str ⟨⟨Aj⟩⟩ (tk+1568), .str y1 (tk+1572)], []⟩) [0, 2] (.fin (.ret (.ref (N+884+1)))) (om [Dw X, A9 [.str y32 (tk+1634), .str Nv (tk+1648), .str Sz (tk+1660), .str ⟨#[114]⟩ (tk+1672), .str ⟨#[103]⟩ (tk+1684)] 5]) 21 112
  [] := by
 cases b1 <;> kernel_rfl
theorem Pp (tp X : Nat) : Ec 340 (wf w b1 b2 false) [105] 1 N tk [] [Dw X] 1289 Ahn (.call (.ref 110) ⟨[.str y28 tp, .str ⟨⟨Aj⟩⟩ (tk+1568), .str y1 (tk+1572)], []⟩) [0, 2] (.fin (.ret (.ref (N+884+1)))) (om [Dw X, A9 [.str y32 (tk+1633), .str Nv (tk+1647), .str Sz (tk+1659), .str ⟨#[114]⟩ (tk+1671), .str ⟨#[103]⟩ (tk+1683)] 5]) 21 111
  [] := by
 cases b1 <;> kernel_rfl
noncomputable abbrev Aix : Nat := (x2 0x4fef04a044003fef040040044440102fef013201fef00fef03001)
theorem Fj (L CH CP D cit acc td ik th pk : Nat) (i : Int) (host : Str) (c : Nat) (cpo : Obj) : Es 340 U.W [D, CP, CH] 3 N tk [.u ⟨.int (host.length : Int) (tk+1574), 2, [], [], []⟩, .u ⟨.bool true, 0, [], [], []⟩, .u ⟨.str ⟨#[c]⟩ (tk+1575), 1, [], [], []⟩, .u ⟨.str Uf (tk+1580), 1, [], [], []⟩, .u ⟨.str Hs (tk+1583), 1, [], [], []⟩] [(Kw U.P td (.int i ik)), A7 (some (.str y32 pk)), A7 (some (.str host th))] 130 Aix (Be U.P L CH CP D cit acc) .base (Ei (J1 (Bv U.P)) (C1 U.P L CH CP D)) [0, 1, 2] (.fin (.ret (.bool true))) 1 12
  [Ac pw U.W (.builtin "str.__getitem__" ⟨[.str ⟨#[91, 97, 98, 93]⟩ pk, .int (1) (tk+1582)], []⟩) (tk+1583) (N+884+1) [] [] [] (.str ⟨#[97]⟩ (tk+1583)) 1, Cj ⟨#[91, 97, 98, 93]⟩ ⟨#[c]⟩ = true, Ac pw U.W (.builtin "str.__getitem__" ⟨[.str ⟨#[91, 97, 98, 93]⟩ pk, .int (0) (tk+1579)], []⟩) (tk+1580) (N+884+1) [] [] [] (.str ⟨#[91]⟩ (tk+1580)) 1, Ac pw U.W (.builtin "str.__getitem__" ⟨[.str host th, .int i ik], []⟩) (tk+1575) (N+884) [] [] [] (.str ⟨#[c]⟩ (tk+1575)) 1, Ac pw U.W (.builtin "int.__lt__" ⟨[.int i ik, .int (host.length : Int) (tk+1574)], []⟩) (tk+1575) (N+884) [] [] [] (.bool true) 0, Ac pw U.W (.builtin "len" ⟨[.str host th], []⟩) (tk+1573) (N+884) [] [] [] (.int (host.length : Int) (tk+1574)) 2] := by
 obtain ⟨b, _⟩ := U; cases b <;> kernel_rfl
theorem F4 (L CH CP D cit acc td ik th pk : Nat) (i : Int) (host : Str) (c : Nat) (cpo : Obj) : Es 340 U.W [D, CP, CH] 3 N tk [.u ⟨.int (host.length : Int) (tk+1574), 2, [], [], []⟩, .u ⟨.bool true, 0, [], [], []⟩, .u ⟨.str ⟨#[c]⟩ (tk+1575), 1, [], [], []⟩, .u ⟨.str Uf (tk+1580), 1, [], [], []⟩, .u ⟨.str ⟨#[94]⟩ (tk+1583), 1, [], [], []⟩] [(Kw U.P td (.int i ik)), A7 (some (.str R2 pk)), A7 (some (.str host th))] 130 Aix (Be U.P L CH CP D cit acc) .base (Ei (J1 (Bv U.P)) (C1 U.P L CH CP D)) [0, 1, 2] (.fin (.ret (.bool false))) 1 12
  [Ac pw U.W (.builtin "str.__getitem__" ⟨[.str ⟨#[91, 94, 97, 93]⟩ pk, .int (1) (tk+1582)], []⟩) (tk+1583) (N+884+1) [] [] [] (.str ⟨#[94]⟩ (tk+1583)) 1, Cj ⟨#[91, 94, 97, 93]⟩ ⟨#[c]⟩ = true, Ac pw U.W (.builtin "str.__getitem__" ⟨[.str ⟨#[91, 94, 97, 93]⟩ pk, .int (0) (tk+1579)], []⟩) (tk+1580) (N+884+1) [] [] [] (.str ⟨#[91]⟩ (tk+1580)) 1, Ac pw U.W (.builtin "str.__getitem__" ⟨[.str host th, .int i ik], []⟩) (tk+1575) (N+884) [] [] [] (.str ⟨#[c]⟩ (tk+1575)) 1, Ac pw U.W (.builtin "int.__lt__" ⟨[.int i ik, .int (host.length : Int) (tk+1574)], []⟩) (tk+1575) (N+884) [] [] [] (.bool true) 0, Ac pw U.W (.builtin "len" ⟨[.str host th], []⟩) (tk+1573) (N+884) [] [] [] (.int (host.length : Int) (tk+1574)) 2] := by
 obtain ⟨b, _⟩ := U; cases b <;> kernel_rfl
theorem Afi (tp : Nat) : Ec 340 U.W [] 0 N tk [] [] 910 (x2 0x1001100110222022230311f0000000000000ff000000ff00000ff0ff01010100100100111001110011001102220222303e000000000000c00000c0000cc01010100100100111001110011001102220222303b0000000000009000009000099010101001001001110011100110011022202223030000000000000000000000000000080000080000880101010010010011100111001100110222022230311001001110011100110011011117554550505554550505554550505504044400001001120022202021110011111101) (.call (.ref 110) ⟨[.str y62 tp, .str ⟨⟨Aj⟩⟩ (tk+1568), .str y1 (tk+1572)], []⟩) [1] (.fin (.ret (.ref (N+884+1)))) (om [A9 [.str y1 (tk+1572), .str Nv (tk+1604), .str Sz (tk+1616), .str ⟨#[114]⟩ (tk+1628), .str ⟨#[103]⟩ (tk+1640)] 5]) 17 68
  [] := by
 obtain ⟨b, _⟩ := U; cases b <;> kernel_rfl
theorem G4 (L CH CP D cit acc td ik th pk : Nat) (i : Int) (host : Str) (c : Nat) (cpo : Obj) : Es 340 U.W [D, CP, CH] 3 N tk [.u ⟨.int (host.length : Int) (tk+1574), 2, [], [], []⟩, .u ⟨.bool true, 0, [], [], []⟩, .u ⟨.str ⟨#[c]⟩ (tk+1575), 1, [], [], []⟩] [(Kw U.P td (.int i ik)), A7 (some (.str y1 pk)), A7 (some (.str host th))] 103 (x2 0x40040044440102fef013201fef00fef03001) (Be U.P L CH CP D cit acc) .base (Ei (J1 (Bv U.P)) (C1 U.P L CH CP D)) [0, 1, 2] (.fin (.ret (.bool true))) 1 7
  [Ac pw U.W (.builtin "str.__getitem__" ⟨[.str host th, .int i ik], []⟩) (tk+1575) (N+884) [] [] [] (.str ⟨#[c]⟩ (tk+1575)) 1, Ac pw U.W (.builtin "int.__lt__" ⟨[.int i ik, .int (host.length : Int) (tk+1574)], []⟩) (tk+1575) (N+884) [] [] [] (.bool true) 0, Ac pw U.W (.builtin "len" ⟨[.str host th], []⟩) (tk+1573) (N+884) [] [] [] (.int (host.length : Int) (tk+1574)) 2] := by
 obtain ⟨b, _⟩ := U; cases b <;> kernel_rfl
theorem Js (L CH CP D cit acc td ik th pk : Nat) (i : Int) (host : Str) (c : Nat) (cpo : Obj) : Es 340 U.W [D, CP, CH] 3 N tk [.u ⟨.int (host.length : Int) (tk+1574), 2, [], [], []⟩, .u ⟨.bool true, 0, [], [], []⟩, .u ⟨.str ⟨#[c]⟩ (tk+1575), 1, [], [], []⟩, .u ⟨.str J3 (tk+1580), 1, [], [], []⟩, .u ⟨.str J3 (tk+1585), 1, [], [], []⟩] [(Kw U.P td (.int i ik)), A7 (some (.str J3 pk)), A7 (some (.str host th))] 132 W8 (Be U.P L CH CP D cit acc) .base (Ei (J1 (Bv U.P)) (C1 U.P L CH CP D)) [0, 1, 2] (.fin (.ret (.bool false))) 1 13
  [Bo ⟨#[119]⟩ ⟨#[c]⟩ = false, Ac pw U.W (.builtin "str.__getitem__" ⟨[.str ⟨#[119]⟩ pk, .int (-1) (tk+1584)], []⟩) (tk+1585) (N+884+1) [] [] [] (.str ⟨#[119]⟩ (tk+1585)) 1, Ac pw U.W (.builtin "str.__getitem__" ⟨[.str ⟨#[119]⟩ pk, .int (0) (tk+1579)], []⟩) (tk+1580) (N+884+1) [] [] [] (.str ⟨#[119]⟩ (tk+1580)) 1, Ac pw U.W (.builtin "str.__getitem__" ⟨[.str host th, .int i ik], []⟩) (tk+1575) (N+884) [] [] [] (.str ⟨#[c]⟩ (tk+1575)) 1, Ac pw U.W (.builtin "int.__lt__" ⟨[.int i ik, .int (host.length : Int) (tk+1574)], []⟩) (tk+1575) (N+884) [] [] [] (.bool true) 0, Ac pw U.W (.builtin "len" ⟨[.str host th], []⟩) (tk+1573) (N+884) [] [] [] (.int (host.length : Int) (tk+1574)) 2] := by
 obtain ⟨b, _⟩ := U; cases b <;> kernel_rfl
theorem Ki (L CH CP D cit acc td ik th pk : Nat) (i : Int) (host : Str) (c : Nat) (cpo : Obj) : Es 340 U.W [D, CP, CH] 3 N tk [.u ⟨.int (host.length : Int) (tk+1574), 2, [], [], []⟩, .u ⟨.bool true, 0, [], [], []⟩, .u ⟨.str ⟨#[c]⟩ (tk+1575), 1, [], [], []⟩, .u ⟨.str J3 (tk+1580), 1, [], [], []⟩, .u ⟨.str J3 (tk+1585), 1, [], [], []⟩] [(Kw U.P td (.int i ik)), A7 (some (.str J3 pk)), A7 (some (.str host th))] 132 Hx7 (Be U.P L CH CP D cit acc) .base (Ei (J1 (Bv U.P)) (C1 U.P L CH CP D)) [0, 1, 2] (.fin (.ret (.bool true))) 1 13
  [Bo ⟨#[119]⟩ ⟨#[c]⟩ = true, Ac pw U.W (.builtin "str.__getitem__" ⟨[.str ⟨#[119]⟩ pk, .int (-1) (tk+1584)], []⟩) (tk+1585) (N+884+1) [] [] [] (.str ⟨#[119]⟩ (tk+1585)) 1, Ac pw U.W (.builtin "str.__getitem__" ⟨[.str ⟨#[119]⟩ pk, .int (0) (tk+1579)], []⟩) (tk+1580) (N+884+1) [] [] [] (.str ⟨#[119]⟩ (tk+1580)) 1, Ac pw U.W (.builtin "str.__getitem__" ⟨[.str host th, .int i ik], []⟩) (tk+1575) (N+884) [] [] [] (.str ⟨#[c]⟩ (tk+1575)) 1, Ac pw U.W (.builtin "int.__lt__" ⟨[.int i ik, .int (host.length : Int) (tk+1574)], []⟩) (tk+1575) (N+884) [] [] [] (.bool true) 0, Ac pw U.W (.builtin "len" ⟨[.str host th], []⟩) (tk+1573) (N+884) [] [] [] (.int (host.length : Int) (tk+1574)) 2] := by
 obtain ⟨b, _⟩ := U; cases b <;> kernel_rfl
theorem Lp (L CH CP D cit acc td ik th pk : Nat) (i : Int) (host : Str) (c : Nat) (cpo : Obj) : Es 340 U.W [D, CP, CH] 3 N tk [.u ⟨.int (host.length : Int) (tk+1574), 2, [], [], []⟩, .u ⟨.bool true, 0, [], [], []⟩, .u ⟨.str ⟨#[c]⟩ (tk+1575), 1, [], [], []⟩, .u ⟨.str Hs (tk+1580), 1, [], [], []⟩, .u ⟨.str Hs (tk+1585), 1, [], [], []⟩] [(Kw U.P td (.int i ik)), A7 (some (.str Hs pk)), A7 (some (.str host th))] 132 Hx7 (Be U.P L CH CP D cit acc) .base (Ei (J1 (Bv U.P)) (C1 U.P L CH CP D)) [0, 1, 2] (.fin (.ret (.bool true))) 1 13
  [Bo ⟨#[97]⟩ ⟨#[c]⟩ = true, Ac pw U.W (.builtin "str.__getitem__" ⟨[.str ⟨#[97]⟩ pk, .int (-1) (tk+1584)], []⟩) (tk+1585) (N+884+1) [] [] [] (.str ⟨#[97]⟩ (tk+1585)) 1, Ac pw U.W (.builtin "str.__getitem__" ⟨[.str ⟨#[97]⟩ pk, .int (0) (tk+1579)], []⟩) (tk+1580) (N+884+1) [] [] [] (.str ⟨#[97]⟩ (tk+1580)) 1, Ac pw U.W (.builtin "str.__getitem__" ⟨[.str host th, .int i ik], []⟩) (tk+1575) (N+884) [] [] [] (.str ⟨#[c]⟩ (tk+1575)) 1, Ac pw U.W (.builtin "int.__lt__" ⟨[.int i ik, .int (host.length : Int) (tk+1574)], []⟩) (tk+1575) (N+884) [] [] [] (.bool true) 0, Ac pw U.W (.builtin "len" ⟨[.str host th], []⟩) (tk+1573) (N+884) [] [] [] (.int (host.length : Int) (tk+1574)) 2] := by
 obtain ⟨b, _⟩ := U; cases b <;> kernel_rfl
theorem Kx (L CH CP D cit acc td ik th pk : Nat) (i : Int) (host : Str) (c : Nat) (cpo : Obj) : Es 340 U.W [D, CP, CH] 3 N tk [.u ⟨.int (host.length : Int) (tk+1574), 2, [], [], []⟩, .u ⟨.bool true, 0, [], [], []⟩, .u ⟨.str ⟨#[c]⟩ (tk+1575), 1, [], [], []⟩, .u ⟨.str Hs (tk+1580), 1, [], [], []⟩, .u ⟨.str Hs (tk+1585), 1, [], [], []⟩] [(Kw U.P td (.int i ik)), A7 (some (.str Hs pk)), A7 (some (.str host th))] 132 W8 (Be U.P L CH CP D cit acc) .base (Ei (J1 (Bv U.P)) (C1 U.P L CH CP D)) [0, 1, 2] (.fin (.ret (.bool false))) 1 13
  [Bo ⟨#[97]⟩ ⟨#[c]⟩ = false, Ac pw U.W (.builtin "str.__getitem__" ⟨[.str ⟨#[97]⟩ pk, .int (-1) (tk+1584)], []⟩) (tk+1585) (N+884+1) [] [] [] (.str ⟨#[97]⟩ (tk+1585)) 1, Ac pw U.W (.builtin "str.__getitem__" ⟨[.str ⟨#[97]⟩ pk, .int (0) (tk+1579)], []⟩) (tk+1580) (N+884+1) [] [] [] (.str ⟨#[97]⟩ (tk+1580)) 1, Ac pw U.W (.builtin "str.__getitem__" ⟨[.str host th, .int i ik], []⟩) (tk+1575) (N+884) [] [] [] (.str ⟨#[c]⟩ (tk+1575)) 1, Ac pw U.W (.builtin "int.__lt__" ⟨[.int i ik, .int (host.length : Int) (tk+1574)], []⟩) (tk+1575) (N+884) [] [] [] (.bool true) 0, Ac pw U.W (.builtin "len" ⟨[.str host th], []⟩) (tk+1573) (N+884) [] [] [] (.int (host.length : Int) (tk+1574)) 2] := by
 obtain ⟨b, _⟩ := U; cases b <;> kernel_rfl
theorem Aff (tp : Nat) : Ec 340 U.W [] 0 N tk [] [] 349 (x2 0x10011001102220222303a0000000000008000008000088010101001001001110011100110011011117554550505554550505554550505504044400001001120022202021110011111101) (.call (.ref 110) ⟨[.str Sx tp, .str ⟨⟨Aj⟩⟩ (tk+1568), .str y1 (tk+1572)], []⟩) [1] (.fin (.ret (.ref (N+884+1)))) (om [A9 [.str Sx (tk+1595)] 1]) 10 23
  [] := by
 obtain ⟨b, _⟩ := U; cases b <;> kernel_rfl
theorem Jp (L CH CP D cit acc td ik th pk : Nat) (i : Int) (host : Str) (c : Nat) (cpo : Obj) : Es 340 U.W [D, CP, CH] 3 N tk [.u ⟨.int (host.length : Int) (tk+1574), 2, [], [], []⟩, .u ⟨.bool true, 0, [], [], []⟩, .u ⟨.str ⟨#[c]⟩ (tk+1575), 1, [], [], []⟩, .u ⟨.str Sx (tk+1580), 1, [], [], []⟩, .u ⟨.str Sx (tk+1585), 1, [], [], []⟩] [(Kw U.P td (.int i ik)), A7 (some (.str Sx pk)), A7 (some (.str host th))] 132 W8 (Be U.P L CH CP D cit acc) .base (Ei (J1 (Bv U.P)) (C1 U.P L CH CP D)) [0, 1, 2] (.fin (.ret (.bool false))) 1 13
  [Bo ⟨#[120]⟩ ⟨#[c]⟩ = false, Ac pw U.W (.builtin "str.__getitem__" ⟨[.str ⟨#[120]⟩ pk, .int (-1) (tk+1584)], []⟩) (tk+1585) (N+884+1) [] [] [] (.str ⟨#[120]⟩ (tk+1585)) 1, Ac pw U.W (.builtin "str.__getitem__" ⟨[.str ⟨#[120]⟩ pk, .int (0) (tk+1579)], []⟩) (tk+1580) (N+884+1) [] [] [] (.str ⟨#[120]⟩ (tk+1580)) 1, Ac pw U.W (.builtin "str.__getitem__" ⟨[.str host th, .int i ik], []⟩) (tk+1575) (N+884) [] [] [] (.str ⟨#[c]⟩ (tk+1575)) 1, Ac pw U.W (.builtin "int.__lt__" ⟨[.int i ik, .int (host.length : Int) (tk+1574)], []⟩) (tk+1575) (N+884) [] [] [] (.bool true) 0, Ac pw U.W (.builtin "len" ⟨[.str host th], []⟩) (tk+1573) (N+884) [] [] [] (.int (host.length : Int) (tk+1574)) 2] := by
 obtain ⟨b, _⟩ := U; cases b <;> kernel_rfl
theorem L3 (L CH CP D cit acc td ik th pk : Nat) (i : Int) (host : Str) (c : Nat) (cpo : Obj) : Es 340 U.W [D, CP, CH] 3 N tk [.u ⟨.int (host.length : Int) (tk+1574), 2, [], [], []⟩, .u ⟨.bool true, 0, [], [], []⟩, .u ⟨.str ⟨#[c]⟩ (tk+1575), 1, [], [], []⟩, .u ⟨.str Sx (tk+1580), 1, [], [], []⟩, .u ⟨.str Sx (tk+1585), 1, [], [], []⟩] [(Kw U.P td (.int i ik)), A7 (some (.str Sx pk)), A7 (some (.str host th))] 132 Hx7 (Be U.P L CH CP D cit acc) .base (Ei (J1 (Bv U.P)) (C1 U.P L CH CP D)) [0, 1, 2] (.fin (.ret (.bool true))) 1 13
  [Bo ⟨#[120]⟩ ⟨#[c]⟩ = true, Ac pw U.W (.builtin "str.__getitem__" ⟨[.str ⟨#[120]⟩ pk, .int (-1) (tk+1584)], []⟩) (tk+1585) (N+884+1) [] [] [] (.str ⟨#[120]⟩ (tk+1585)) 1, Ac pw U.W (.builtin "str.__getitem__" ⟨[.str ⟨#[120]⟩ pk, .int (0) (tk+1579)], []⟩) (tk+1580) (N+884+1) [] [] [] (.str ⟨#[120]⟩ (tk+1580)) 1, Ac pw U.W (.builtin "str.__getitem__" ⟨[.str host th, .int i ik], []⟩) (tk+1575) (N+884) [] [] [] (.str ⟨#[c]⟩ (tk+1575)) 1, Ac pw U.W (.builtin "int.__lt__" ⟨[.int i ik, .int (host.length : Int) (tk+1574)], []⟩) (tk+1575) (N+884) [] [] [] (.bool true) 0, Ac pw U.W (.builtin "len" ⟨[.str host th], []⟩) (tk+1573) (N+884) [] [] [] (.int (host.length : Int) (tk+1574)) 2] := by
 obtain ⟨b, _⟩ := U; cases b <;> kernel_rfl
theorem Ac8 (tp : Nat) : Ec 340 U.W [] 0 N tk [] [] 428 (x2 0x100110011022202223031100100111001110011001102220222303a0000000000008000008000088010101001001001110011100110011011117554550505554550505554550505504044400001001120022202021110011111101) (.call (.ref 110) ⟨[.str ⟨#[97, 63]⟩ tp, .str ⟨⟨Aj⟩⟩ (tk+1568), .str y1 (tk+1572)], []⟩) [1] (.fin (.ret (.ref (N+884+1)))) (om [A9 [.str Hs (tk+1595), .str y1 (tk+1572)] 2]) 10 30
  [] := by
 obtain ⟨b, _⟩ := U; cases b <;> kernel_rfl
end
noncomputable def Fg (P : Params) : Stmt := B5 (Bl P 110) 3
noncomputable def Cg (P : Params) (L : Nat) : Env := D5 P 110 109 L
noncomputable def Av (P : Params) (L : Nat) : Code := .whileLoop (Wn (Fg P)) (Sv (Fg P)) (whE (Fg P)) (Cg P L)
noncomputable def No (P : Params) : Stmt := B5 (Sv (Fg P)) 2
noncomputable def Eh (P : Params) : Stmt := B5 (Wj (No P)) 0
noncomputable def Pe : Expr -> List Expr | .BoolOp _ l _ => l | _ => []
noncomputable def Dt : List Expr -> Nat -> Expr | [], _ => .Name ⟨#[]⟩ ⟨0, 0, 0, 0⟩ | a :: _, 0 => a | _ :: l, j + 1 => Dt l j
section
variable (U : Fl) (w : World) (b1 b2 : Bool) (N tk : Nat)
noncomputable abbrev Y3 : Nat := (x2 0x211117554550505554550505554550505504044400001001120022202021110011111101)
noncomputable abbrev Mb (tp : Nat) : Res := Ay 340 U.W [] 0 N tk [] [] 172 Y3 (.call (.ref 110) ⟨[.str Lh tp, .str ⟨⟨Aj⟩⟩ (tk+1568), .str y1 (tk+1572)], []⟩) .base (.pure (.again (.call (.ref 110) ⟨[.str Lh tp, .str ⟨⟨Aj⟩⟩ (tk+1568), .str y1 (tk+1572)], []⟩)))
theorem Rh (tp : Nat) : (Ev 340 U.W [] 0 N tk [] [] 172 Y3 (.call (.ref 110) ⟨[.str Lh tp, .str ⟨⟨Aj⟩⟩ (tk+1568), .str y1 (tk+1572)], []⟩) .base (.pure (.again (.call (.ref 110) ⟨[.str Lh tp, .str ⟨⟨Aj⟩⟩ (tk+1568), .str y1 (tk+1572)], []⟩))) [0, 1, 2, 3, 4, 5, 6] (.call (Av U.P (N+884)) 1) (om [(zF U.P [⟨y3, (tk+1573), .str Lh tp⟩, ⟨y4, (tk+1574), .str y2 (tk+1568)⟩, ⟨y5, (tk+1575), .str y1 (tk+1572)⟩, ⟨y6, (tk+1576), .ref (N+884+1)⟩, ⟨y7, (tk+1578), .ref (N+884+2)⟩, ⟨y8, (tk+1582), .int (5) (tk+1581)⟩, ⟨y9, (tk+1583), .int (0) (tk+1579)⟩] 7), (zl [] 0), (zb (N+884+1)), (zt [.int (0) (tk+1579), .int (5) (tk+1581)]), zi, (zt []), (zs (N+884+5))]) 7 11
  []) /\ ∀ M K a0 a1 k0 k1 k2 k3 k4 k5 k6 k7 k8 k9 k10 k11 k12 k13 : Nat, Ev 340 U.W [(N+884)] 1 M K [] [(fA U.P Lh a0 a1 5 5 Fo k0 k1 k2 k3 k4 k5 k6 k7 k8 k9 k10 k11 k12 k13 [] 8)] 53 0x0100000101 (Mb U N tk tp).c (Mb U N tk tp).κ (Cb (Mb U N tk tp).t (.ok .next)) [0] (.fin (.ret (.ref a0))) (om [(fA U.P Lh a0 a1 5 5 Fo k0 k1 k2 k3 k4 k5 k6 k7 k8 k9 k10 k11 k12 k13 [] 8)]) 0 0
  [] := by
 obtain ⟨b, _⟩ := U; cases b <;> exact ⟨by kernel_rfl, fun _ _ _ _ _ _ _ _ _ _ _ _ _ _ _ _ _ _ => by kernel_rfl⟩
theorem Wr (L A1 A2 A3 A4 A5 A6 k0 k1 k2 k3 k4 k5 k6 k7 k8 k9 k10 k11 : Nat) : Ec 340 U.W [L, A1, A2, A3, A4, A5, A6] 7 N tk [] [(zF U.P [⟨y3, k0, .str Lh k1⟩, ⟨y4, k2, .str y2 k3⟩, ⟨y5, k4, .str y1 k5⟩, ⟨y6, k6, .ref A1⟩, ⟨y7, k7, .ref A2⟩, ⟨y8, k8, .int (5) k9⟩, ⟨y9, k10, .int (0) k11⟩] 7), (zl [] 0), (zb A1), (zt [.int (0) k11, .int (5) k9]), zi, (zt []), (zs A5)] 675 (x2 0x222202223030000000000000000000000000000011f0000011f000011f11f0101010010010011100111001100110222022230310f000000000000e00000e0000ee01010100100100111001110011001102220222303d000000000000b00000b0000bb01010100100100111001110011001102220222303a00000000000080000080000880101010010010011100111001100110) (Av U.P L) [0, 1, 2, 3, 4, 5, 6] (.again (Av U.P L)) (om [(fA U.P Lh A1 A2 5 4 ⟨#[46]⟩ k0 k1 k2 k3 k4 k5 k6 k7 k8 k9 k10 (tk+1612) (tk+1574) (tk+1609) [] 8), (zl [.str J3 (tk+1584), .str J3 (tk+1596), .str J3 (tk+1608), .str Nv (tk+1622)] 4), (zb A1), (zt [.int (0) k11, .int (5) k9]), zi, (zt []), (zs A5)]) 10 50
  [] := by
 obtain ⟨b, _⟩ := U; cases b <;> kernel_rfl
theorem Aa5 (L a0 a1 k0 k1 k2 k3 k4 k5 k6 k7 k8 k9 k10 k11 k12 k13 : Nat) : Es 340 U.W [L] 1 N tk [] [(fA U.P Lh a0 a1 5 4 ⟨#[46]⟩ k0 k1 k2 k3 k4 k5 k6 k7 k8 k9 k10 k11 k12 k13 [] 8)] 49 0x00000101 (Av U.P L) .base (Ei (Wn (Fg U.P)) (Cg U.P L)) [0] (.fin (.ret (.bool true))) 0 0
  [] := by
 obtain ⟨b, _⟩ := U; cases b <;> kernel_rfl
theorem Y9 (L a0 a1 k0 k1 k2 k3 k4 k5 k6 k7 k8 k9 k10 k11 k12 k13 : Nat) : Ev 340 U.W [L] 1 N tk [] [(fA U.P Lh a0 a1 5 4 ⟨#[46]⟩ k0 k1 k2 k3 k4 k5 k6 k7 k8 k9 k10 k11 k12 k13 [] 8)] 73 (x2 0x11001110011) (Av U.P L) .base (Nx [B5 (Sv (Fg U.P)) 0, B5 (Sv (Fg U.P)) 1] (Cg U.P L)) [0] (.fin .next) (om [(fA U.P Lh a0 a1 5 5 Fo k0 k1 k2 k3 k4 k5 k6 k7 k8 k9 k10 (tk+1576) k12 (tk+1573) [] 8)]) 0 5
  [] := by
 kernel_rfl
theorem Wz (L a0 a1 k0 k1 k2 k3 k4 k5 k6 k7 k8 k9 k10 k11 k12 k13 : Nat) : Es 340 U.W [L] 1 N tk [] [(fA U.P Lh a0 a1 5 5 Fo k0 k1 k2 k3 k4 k5 k6 k7 k8 k9 k10 k11 k12 k13 [] 8)] 48 0x000001 (Av U.P L) .base (Ei (Fx (No U.P)) (Cg U.P L)) [0] (.fin (.ret (.bool true))) 0 1
  [] := by
 obtain ⟨b, _⟩ := U; cases b <;> kernel_rfl
theorem Aa3 (L A1 a0 k0 k1 k2 k3 k4 k5 k6 k7 k8 k9 k10 k11 k12 k13 k14 k15 Eo Ee : Nat) : Es 340 U.W [L, A1] 2 N tk [] [(fA U.P Lh A1 a0 5 5 Fo k0 k1 k2 k3 k4 k5 k6 k7 k8 k9 k10 k11 k12 k13 [] 8), (zl [.str J3 k14, .str J3 k15, .str J3 Eo, .str Nv Ee] 4)] 56 (x2 0x202020221) (Av U.P L) .base (Ei (Dt (Pe (Fx (Eh U.P))) 0) (Cg U.P L)) [0, 1] (.fin (.ret (.bool false))) 0 2
  [] := by
 kernel_rfl
theorem Za (L A1 a0 k0 k1 k2 k3 k4 k5 k6 k7 k8 k9 k10 k11 k12 k13 k14 k15 Eo Ee : Nat) : Es 340 U.W [L, A1] 2 N tk [] [(fA U.P Lh A1 a0 5 5 Fo k0 k1 k2 k3 k4 k5 k6 k7 k8 k9 k10 k11 k12 k13 [] 8), (zl [.str J3 k14, .str J3 k15, .str J3 Eo, .str Nv Ee] 4)] 57 (x2 0x2020222001) (Av U.P L) .base (Le (C2 (Dt (Pe (Fx (Eh U.P))) 1)) (Cg U.P L)) [0, 1] (.fin (.ret (.str Nv Ee))) 0 2
  [] := by
 kernel_rfl
theorem Aaa (L a0 a1 k0 k1 k2 k3 k4 k5 k6 k7 k8 k9 k10 k11 k12 k13 : Nat) : Es 340 U.W [L] 1 N tk [] [(fA U.P Lh a0 a1 5 5 Fo k0 k1 k2 k3 k4 k5 k6 k7 k8 k9 k10 k11 k12 k13 [] 8)] 42 0x01 (Av U.P L) .base (Le (Bi (Dt (Pe (Fx (Eh U.P))) 1)) (Cg U.P L)) [0] (.fin (.ret (.str y2 k3))) 0 0
  [] := by
 kernel_rfl
theorem Aa0 (L A1 A2 k0 k1 k2 k3 k4 k5 k6 k7 k8 k9 k10 k11 k12 k13 k14 k15 Eo Ee : Nat) : Ev 340 U.W [L, A1, A2] 3 N tk [] [(fA U.P Lh A1 A2 5 5 Fo k0 k1 k2 k3 k4 k5 k6 k7 k8 k9 k10 k11 k12 k13 [] 8), (zl [.str J3 k14, .str J3 k15, .str J3 Eo, .str Nv Ee] 4), (zb A1)] 58 (x2 0x222022230311) (Av U.P L) .base (Nx (Wj (Eh U.P)) (Cg U.P L)) [0, 1, 2] (.fin .next) (om [(fA U.P Lh A1 A2 5 5 Fo k0 k1 k2 k3 k4 k5 k6 k7 k8 k9 k10 k11 k12 k13 [] 8), (zl [.str J3 k14, .str J3 k15, .str J3 Eo, .str Nv Ee, .str y2 k3] 5), (zb A1)]) 0 0
  [] := by
 kernel_rfl
theorem Xx (L a0 a1 k0 k1 k2 k3 k4 k5 k6 k7 k8 k9 k10 k11 k12 k13 : Nat) : Es 340 U.W [L] 1 N tk [] [(fA U.P Lh a0 a1 5 5 Fo k0 k1 k2 k3 k4 k5 k6 k7 k8 k9 k10 k11 k12 k13 [] 8)] 49 0x00000101 (Av U.P L) .base (Ei (Wn (Fg U.P)) (Cg U.P L)) [0] (.fin (.ret (.bool false))) 0 0
  [] := by
 obtain ⟨b, _⟩ := U; cases b <;> kernel_rfl
noncomputable abbrev Mu (tp : Nat) : Res := Ay 340 U.W [] 0 N tk [] [] 172 Y3 (.call (.ref 110) ⟨[.str Li tp, .str ⟨⟨Aj⟩⟩ (tk+1568), .str y1 (tk+1572)], []⟩) .base (.pure (.again (.call (.ref 110) ⟨[.str Li tp, .str ⟨⟨Aj⟩⟩ (tk+1568), .str y1 (tk+1572)], []⟩)))
theorem Qy (tp : Nat) : (Ev 340 U.W [] 0 N tk [] [] 172 Y3 (.call (.ref 110) ⟨[.str Li tp, .str ⟨⟨Aj⟩⟩ (tk+1568), .str y1 (tk+1572)], []⟩) .base (.pure (.again (.call (.ref 110) ⟨[.str Li tp, .str ⟨⟨Aj⟩⟩ (tk+1568), .str y1 (tk+1572)], []⟩))) [0, 1, 2, 3, 4, 5, 6] (.call (Av U.P (N+884)) 1) (om [(zF U.P [⟨y3, (tk+1573), .str Li tp⟩, ⟨y4, (tk+1574), .str y2 (tk+1568)⟩, ⟨y5, (tk+1575), .str y1 (tk+1572)⟩, ⟨y6, (tk+1576), .ref (N+884+1)⟩, ⟨y7, (tk+1578), .ref (N+884+2)⟩, ⟨y8, (tk+1582), .int (3) (tk+1581)⟩, ⟨y9, (tk+1583), .int (0) (tk+1579)⟩] 7), (zl [] 0), (zb (N+884+1)), (zt [.int (0) (tk+1579), .int (3) (tk+1581)]), zi, (zt []), (zs (N+884+5))]) 7 11
  []) /\ ∀ M K a0 a1 k0 k1 k2 k3 k4 k5 k6 k7 k8 k9 k10 k11 k12 k13 : Nat, Ev 340 U.W [(N+884)] 1 M K [] [(fA U.P Li a0 a1 3 3 Fo k0 k1 k2 k3 k4 k5 k6 k7 k8 k9 k10 k11 k12 k13 [] 8)] 53 0x0100000101 (Mu U N tk tp).c (Mu U N tk tp).κ (Cb (Mu U N tk tp).t (.ok .next)) [0] (.fin (.ret (.ref a0))) (om [(fA U.P Li a0 a1 3 3 Fo k0 k1 k2 k3 k4 k5 k6 k7 k8 k9 k10 k11 k12 k13 [] 8)]) 0 0
  [] := by
 obtain ⟨b, _⟩ := U; cases b <;> exact ⟨by kernel_rfl, fun _ _ _ _ _ _ _ _ _ _ _ _ _ _ _ _ _ _ => by kernel_rfl⟩
theorem Y4 (L A1 A2 A3 A4 A5 A6 k0 k1 k2 k3 k4 k5 k6 k7 k8 k9 k10 k11 : Nat) : Ec 340 U.W [L, A1, A2, A3, A4, A5, A6] 7 N tk [] [(zF U.P [⟨y3, k0, .str Li k1⟩, ⟨y4, k2, .str y2 k3⟩, ⟨y5, k4, .str y1 k5⟩, ⟨y6, k6, .ref A1⟩, ⟨y7, k7, .ref A2⟩, ⟨y8, k8, .int (3) k9⟩, ⟨y9, k10, .int (0) k11⟩] 7), (zl [] 0), (zb A1), (zt [.int (0) k11, .int (3) k9]), zi, (zt []), (zs A5)] 280 (x2 0x22220222303a000000000000800000800008801010100100100111001110011001102220222303112020202210011100111001100110) (Av U.P L) [0, 1, 2, 3, 4, 5, 6] (.again (Av U.P L)) (om [(fA U.P Li A1 A2 3 2 Hs k0 k1 k2 k3 k4 k5 k6 k7 k8 k9 k10 (tk+1584) (tk+1574) (tk+1581) [] 8), (zl [.str y2 k3, .str Hs (tk+1592)] 2), (zb A1), (zt [.int (0) k11, .int (3) k9]), zi, (zt []), (zs A5)]) 3 20
  [] := by
 obtain ⟨b, _⟩ := U; cases b <;> kernel_rfl
theorem X2 (L a0 a1 k0 k1 k2 k3 k4 k5 k6 k7 k8 k9 k10 k11 k12 k13 : Nat) : Es 340 U.W [L] 1 N tk [] [(fA U.P Li a0 a1 3 2 Hs k0 k1 k2 k3 k4 k5 k6 k7 k8 k9 k10 k11 k12 k13 [] 8)] 49 0x00000101 (Av U.P L) .base (Ei (Wn (Fg U.P)) (Cg U.P L)) [0] (.fin (.ret (.bool true))) 0 0
  [] := by
 obtain ⟨b, _⟩ := U; cases b <;> kernel_rfl
theorem Zh (L a0 a1 k0 k1 k2 k3 k4 k5 k6 k7 k8 k9 k10 k11 k12 k13 : Nat) : Ev 340 U.W [L] 1 N tk [] [(fA U.P Li a0 a1 3 2 Hs k0 k1 k2 k3 k4 k5 k6 k7 k8 k9 k10 k11 k12 k13 [] 8)] 73 (x2 0x11001110011) (Av U.P L) .base (Nx [B5 (Sv (Fg U.P)) 0, B5 (Sv (Fg U.P)) 1] (Cg U.P L)) [0] (.fin .next) (om [(fA U.P Li a0 a1 3 3 Fo k0 k1 k2 k3 k4 k5 k6 k7 k8 k9 k10 (tk+1576) k12 (tk+1573) [] 8)]) 0 5
  [] := by
 kernel_rfl
theorem Zg (L a0 a1 k0 k1 k2 k3 k4 k5 k6 k7 k8 k9 k10 k11 k12 k13 : Nat) : Es 340 U.W [L] 1 N tk [] [(fA U.P Li a0 a1 3 3 Fo k0 k1 k2 k3 k4 k5 k6 k7 k8 k9 k10 k11 k12 k13 [] 8)] 48 0x000001 (Av U.P L) .base (Ei (Fx (No U.P)) (Cg U.P L)) [0] (.fin (.ret (.bool true))) 0 1
  [] := by
 obtain ⟨b, _⟩ := U; cases b <;> kernel_rfl
theorem Xs (L A1 a0 k0 k1 k2 k3 k4 k5 k6 k7 k8 k9 k10 k11 k12 k13 k14 : Nat) : Es 340 U.W [L, A1] 2 N tk [] [(fA U.P Li A1 a0 3 3 Fo k0 k1 k2 k3 k4 k5 k6 k7 k8 k9 k10 k11 k12 k13 [] 8), (zl [.str y2 k3, .str Hs k14] 2)] 56 (x2 0x202020221) (Av U.P L) .base (Ei (Dt (Pe (Fx (Eh U.P))) 0) (Cg U.P L)) [0, 1] (.fin (.ret (.bool false))) 0 2
  [] := by
 kernel_rfl
theorem Y8 (L A1 a0 k0 k1 k2 k3 k4 k5 k6 k7 k8 k9 k10 k11 k12 k13 k14 : Nat) : Es 340 U.W [L, A1] 2 N tk [] [(fA U.P Li A1 a0 3 3 Fo k0 k1 k2 k3 k4 k5 k6 k7 k8 k9 k10 k11 k12 k13 [] 8), (zl [.str y2 k3, .str Hs k14] 2)] 57 (x2 0x2020222001) (Av U.P L) .base (Le (C2 (Dt (Pe (Fx (Eh U.P))) 1)) (Cg U.P L)) [0, 1] (.fin (.ret (.str Hs k14))) 0 2
  [] := by
 kernel_rfl
theorem X6 (L a0 a1 k0 k1 k2 k3 k4 k5 k6 k7 k8 k9 k10 k11 k12 k13 : Nat) : Es 340 U.W [L] 1 N tk [] [(fA U.P Li a0 a1 3 3 Fo k0 k1 k2 k3 k4 k5 k6 k7 k8 k9 k10 k11 k12 k13 [] 8)] 42 0x01 (Av U.P L) .base (Le (Bi (Dt (Pe (Fx (Eh U.P))) 1)) (Cg U.P L)) [0] (.fin (.ret (.str y2 k3))) 0 0
  [] := by
 kernel_rfl
theorem Yt (L A1 A2 k0 k1 k2 k3 k4 k5 k6 k7 k8 k9 k10 k11 k12 k13 k14 : Nat) : Ev 340 U.W [L, A1, A2] 3 N tk [] [(fA U.P Li A1 A2 3 3 Fo k0 k1 k2 k3 k4 k5 k6 k7 k8 k9 k10 k11 k12 k13 [] 8), (zl [.str y2 k3, .str Hs k14] 2), (zb A1)] 58 (x2 0x222022230311) (Av U.P L) .base (Nx (Wj (Eh U.P)) (Cg U.P L)) [0, 1, 2] (.fin .next) (om [(fA U.P Li A1 A2 3 3 Fo k0 k1 k2 k3 k4 k5 k6 k7 k8 k9 k10 k11 k12 k13 [] 8), (zl [.str y2 k3, .str Hs k14, .str y2 k3] 3), (zb A1)]) 0 0
  [] := by
 kernel_rfl
theorem Xl (L a0 a1 k0 k1 k2 k3 k4 k5 k6 k7 k8 k9 k10 k11 k12 k13 : Nat) : Es 340 U.W [L] 1 N tk [] [(fA U.P Li a0 a1 3 3 Fo k0 k1 k2 k3 k4 k5 k6 k7 k8 k9 k10 k11 k12 k13 [] 8)] 49 0x00000101 (Av U.P L) .base (Ei (Wn (Fg U.P)) (Cg U.P L)) [0] (.fin (.ret (.bool false))) 0 0
  [] := by
 obtain ⟨b, _⟩ := U; cases b <;> kernel_rfl
noncomputable abbrev Hx5 : Nat := (x2 0x222228665660606665660606665660606605055500002002230033303032220022222201)
noncomputable abbrev Gj (tp : Nat) : Res := Ay 340 (wf w b1 b2 true) [105] 1 N tk [] [B9] 172 Hx5 (.call (.ref 110) ⟨[.str E1 tp, .str ⟨⟨Aj⟩⟩ (tk+1568), .str y1 (tk+1572)], []⟩) .base (.pure (.again (.call (.ref 110) ⟨[.str E1 tp, .str ⟨⟨Aj⟩⟩ (tk+1568), .str y1 (tk+1572)], []⟩)))
theorem J7 (tp : Nat) : (Ev 340 (wf w b1 b2 true) [105] 1 N tk [] [B9] 172 Hx5 (.call (.ref 110) ⟨[.str E1 tp, .str ⟨⟨Aj⟩⟩ (tk+1568), .str y1 (tk+1572)], []⟩) .base (.pure (.again (.call (.ref 110) ⟨[.str E1 tp, .str ⟨⟨Aj⟩⟩ (tk+1568), .str y1 (tk+1572)], []⟩))) [0, 1, 2, 3, 4, 5, 6, 7] (.call (Av (wf w b1 b2 true).params (N+884)) 1) (om [B9, (zF (wf w b1 b2 true).params [⟨y3, (tk+1573), .str E1 tp⟩, ⟨y4, (tk+1574), .str y2 (tk+1568)⟩, ⟨y5, (tk+1575), .str y1 (tk+1572)⟩, ⟨y6, (tk+1576), .ref (N+884+1)⟩, ⟨y7, (tk+1578), .ref (N+884+2)⟩, ⟨y8, (tk+1582), .int (5) (tk+1581)⟩, ⟨y9, (tk+1583), .int (0) (tk+1579)⟩] 7), (zl [] 0), (zb (N+884+1)), (zt [.int (0) (tk+1579), .int (5) (tk+1581)]), zi, (zt []), (zs (N+884+5))]) 7 11
  []) /\ ∀ M K a0 a1 k0 k1 k2 k3 k4 k5 k6 k7 k8 k9 k10 k11 k12 k13 k14 k15 Eo Ee : Nat, Ev 340 (wf w b1 b2 true) [(N+884)] 1 M K [] [(fA (wf w b1 b2 true).params E1 a0 a1 5 5 Fo k0 k1 k2 k3 k4 k5 k6 k7 k8 k9 k10 k11 k12 k13 [⟨Jv, k14, .int (3) k15⟩, ⟨Jy, Eo, .str Kd Ee⟩] 10)] 53 0x0100000101 (Gj w b1 b2 N tk tp).c (Gj w b1 b2 N tk tp).κ (Cb (Gj w b1 b2 N tk tp).t (.ok .next)) [0] (.fin (.ret (.ref a0))) (om [(fA (wf w b1 b2 true).params E1 a0 a1 5 5 Fo k0 k1 k2 k3 k4 k5 k6 k7 k8 k9 k10 k11 k12 k13 [⟨Jv, k14, .int (3) k15⟩, ⟨Jy, Eo, .str Kd Ee⟩] 10)]) 0 0
  [] := by
 cases b1 <;> exact ⟨by kernel_rfl, fun _ _ _ _ _ _ _ _ _ _ _ _ _ _ _ _ _ _ _ _ _ _ => by kernel_rfl⟩
noncomputable abbrev Ahj : Nat := (x2 0x2333033340422220012f12f12f12f002000020020002220022211f11f0011f11f11f11f0000010f000200011110000002200200222999900222002200002200220220020000220022000002200222200200002200222220020020022200222002200220)
theorem Ok (L A1 A2 A3 A4 A5 A6 k0 k1 k2 k3 k4 k5 k6 k7 k8 k9 k10 k11 : Nat) : Ec 340 (wf w b1 b2 true) [105, L, A1, A2, A3, A4, A5, A6] 8 N tk [] [B9, (zF (wf w b1 b2 true).params [⟨y3, k0, .str E1 k1⟩, ⟨y4, k2, .str y2 k3⟩, ⟨y5, k4, .str y1 k5⟩, ⟨y6, k6, .ref A1⟩, ⟨y7, k7, .ref A2⟩, ⟨y8, k8, .int (5) k9⟩, ⟨y9, k10, .int (0) k11⟩] 7), (zl [] 0), (zb A1), (zt [.int (0) k11, .int (5) k9]), zi, (zt []), (zs A5)] 488 Ahj (Av (wf w b1 b2 true).params L) [0, 1, 2, 3, 4, 5, 6, 7] (.again (Av (wf w b1 b2 true).params L)) (om [Dw (N+884+6), (fA (wf w b1 b2 true).params E1 A1 A2 5 4 Uf k0 k1 k2 k3 k4 k5 k6 k7 k8 k9 k10 (tk+1612) (tk+1574) (tk+1573) [⟨Jv, (tk+1581), .int (3) (tk+1592)⟩, ⟨Jy, (tk+1597), .str Kd (tk+1623)⟩] 10), (zl [.str R2 (tk+1628)] 1), (zb A1), (zt [.int (0) k11, .int (5) k9]), zi, (zt []), (zs A5)]) 10 56
  [] := by
 cases b1 <;> kernel_rfl
theorem Z2 (L a0 a1 k0 k1 k2 k3 k4 k5 k6 k7 k8 k9 k10 k11 k12 k13 k14 k15 Eo Ee : Nat) : Es 340 U.W [L] 1 N tk [] [(fA U.P E1 a0 a1 5 4 Uf k0 k1 k2 k3 k4 k5 k6 k7 k8 k9 k10 k11 k12 k13 [⟨Jv, k14, .int (3) k15⟩, ⟨Jy, Eo, .str Kd Ee⟩] 10)] 49 0x00000101 (Av U.P L) .base (Ei (Wn (Fg U.P)) (Cg U.P L)) [0] (.fin (.ret (.bool true))) 0 0
  [] := by
 obtain ⟨b, _⟩ := U; cases b <;> kernel_rfl
theorem Zp (L a0 a1 k0 k1 k2 k3 k4 k5 k6 k7 k8 k9 k10 k11 k12 k13 k14 k15 Eo Ee : Nat) : Ev 340 U.W [L] 1 N tk [] [(fA U.P E1 a0 a1 5 4 Uf k0 k1 k2 k3 k4 k5 k6 k7 k8 k9 k10 k11 k12 k13 [⟨Jv, k14, .int (3) k15⟩, ⟨Jy, Eo, .str Kd Ee⟩] 10)] 73 (x2 0x11001110011) (Av U.P L) .base (Nx [B5 (Sv (Fg U.P)) 0, B5 (Sv (Fg U.P)) 1] (Cg U.P L)) [0] (.fin .next) (om [(fA U.P E1 a0 a1 5 5 Fo k0 k1 k2 k3 k4 k5 k6 k7 k8 k9 k10 (tk+1576) k12 (tk+1573) [⟨Jv, k14, .int (3) k15⟩, ⟨Jy, Eo, .str Kd Ee⟩] 10)]) 0 5
  [] := by
 kernel_rfl
theorem Xp (L a0 a1 k0 k1 k2 k3 k4 k5 k6 k7 k8 k9 k10 k11 k12 k13 k14 k15 Eo Ee : Nat) : Es 340 U.W [L] 1 N tk [] [(fA U.P E1 a0 a1 5 5 Fo k0 k1 k2 k3 k4 k5 k6 k7 k8 k9 k10 k11 k12 k13 [⟨Jv, k14, .int (3) k15⟩, ⟨Jy, Eo, .str Kd Ee⟩] 10)] 48 0x000001 (Av U.P L) .base (Ei (Fx (No U.P)) (Cg U.P L)) [0] (.fin (.ret (.bool true))) 0 1
  [] := by
 obtain ⟨b, _⟩ := U; cases b <;> kernel_rfl
theorem Aan (L A1 a0 k0 k1 k2 k3 k4 k5 k6 k7 k8 k9 k10 k11 k12 k13 k14 k15 Eo Ee k18 : Nat) : Es 340 U.W [L, A1] 2 N tk [] [(fA U.P E1 A1 a0 5 5 Fo k0 k1 k2 k3 k4 k5 k6 k7 k8 k9 k10 k11 k12 k13 [⟨Jv, k14, .int (3) k15⟩, ⟨Jy, Eo, .str Kd Ee⟩] 10), (zl [.str R2 k18] 1)] 56 (x2 0x202020221) (Av U.P L) .base (Ei (Dt (Pe (Fx (Eh U.P))) 0) (Cg U.P L)) [0, 1] (.fin (.ret (.bool false))) 0 2
  [] := by
 kernel_rfl
theorem Yi (L A1 a0 k0 k1 k2 k3 k4 k5 k6 k7 k8 k9 k10 k11 k12 k13 k14 k15 Eo Ee k18 : Nat) : Es 340 U.W [L, A1] 2 N tk [] [(fA U.P E1 A1 a0 5 5 Fo k0 k1 k2 k3 k4 k5 k6 k7 k8 k9 k10 k11 k12 k13 [⟨Jv, k14, .int (3) k15⟩, ⟨Jy, Eo, .str Kd Ee⟩] 10), (zl [.str R2 k18] 1)] 57 (x2 0x2020222001) (Av U.P L) .base (Le (C2 (Dt (Pe (Fx (Eh U.P))) 1)) (Cg U.P L)) [0, 1] (.fin (.ret (.str R2 k18))) 0 2
  [] := by
 kernel_rfl
theorem Aa2 (L a0 a1 k0 k1 k2 k3 k4 k5 k6 k7 k8 k9 k10 k11 k12 k13 k14 k15 Eo Ee : Nat) : Es 340 U.W [L] 1 N tk [] [(fA U.P E1 a0 a1 5 5 Fo k0 k1 k2 k3 k4 k5 k6 k7 k8 k9 k10 k11 k12 k13 [⟨Jv, k14, .int (3) k15⟩, ⟨Jy, Eo, .str Kd Ee⟩] 10)] 42 0x01 (Av U.P L) .base (Le (Bi (Dt (Pe (Fx (Eh U.P))) 1)) (Cg U.P L)) [0] (.fin (.ret (.str y2 k3))) 0 0
  [] := by
 kernel_rfl
theorem Z9 (L A1 A2 k0 k1 k2 k3 k4 k5 k6 k7 k8 k9 k10 k11 k12 k13 k14 k15 Eo Ee k18 : Nat) : Ev 340 U.W [L, A1, A2] 3 N tk [] [(fA U.P E1 A1 A2 5 5 Fo k0 k1 k2 k3 k4 k5 k6 k7 k8 k9 k10 k11 k12 k13 [⟨Jv, k14, .int (3) k15⟩, ⟨Jy, Eo, .str Kd Ee⟩] 10), (zl [.str R2 k18] 1), (zb A1)] 58 (x2 0x222022230311) (Av U.P L) .base (Nx (Wj (Eh U.P)) (Cg U.P L)) [0, 1, 2] (.fin .next) (om [(fA U.P E1 A1 A2 5 5 Fo k0 k1 k2 k3 k4 k5 k6 k7 k8 k9 k10 k11 k12 k13 [⟨Jv, k14, .int (3) k15⟩, ⟨Jy, Eo, .str Kd Ee⟩] 10), (zl [.str R2 k18, .str y2 k3] 2), (zb A1)]) 0 0
  [] := by
 kernel_rfl
theorem Zn (L a0 a1 k0 k1 k2 k3 k4 k5 k6 k7 k8 k9 k10 k11 k12 k13 k14 k15 Eo Ee : Nat) : Es 340 U.W [L] 1 N tk [] [(fA U.P E1 a0 a1 5 5 Fo k0 k1 k2 k3 k4 k5 k6 k7 k8 k9 k10 k11 k12 k13 [⟨Jv, k14, .int (3) k15⟩, ⟨Jy, Eo, .str Kd Ee⟩] 10)] 49 0x00000101 (Av U.P L) .base (Ei (Wn (Fg U.P)) (Cg U.P L)) [0] (.fin (.ret (.bool false))) 0 0
  [] := by
 obtain ⟨b, _⟩ := U; cases b <;> kernel_rfl
noncomputable abbrev Gc (tp : Nat) : Res := Ay 340 (wf w b1 b2 false) [105] 1 N tk [] [B9] 172 Hx5 (.call (.ref 110) ⟨[.str E1 tp, .str ⟨⟨Aj⟩⟩ (tk+1568), .str y1 (tk+1572)], []⟩) .base (.pure (.again (.call (.ref 110) ⟨[.str E1 tp, .str ⟨⟨Aj⟩⟩ (tk+1568), .str y1 (tk+1572)], []⟩)))
theorem Ja (tp : Nat) : (Ev 340 (wf w b1 b2 false) [105] 1 N tk [] [B9] 172 Hx5 (.call (.ref 110) ⟨[.str E1 tp, .str ⟨⟨Aj⟩⟩ (tk+1568), .str y1 (tk+1572)], []⟩) .base (.pure (.again (.call (.ref 110) ⟨[.str E1 tp, .str ⟨⟨Aj⟩⟩ (tk+1568), .str y1 (tk+1572)], []⟩))) [0, 1, 2, 3, 4, 5, 6, 7] (.call (Av (wf w b1 b2 false).params (N+884)) 1) (om [B9, (zF (wf w b1 b2 false).params [⟨y3, (tk+1573), .str E1 tp⟩, ⟨y4, (tk+1574), .str y2 (tk+1568)⟩, ⟨y5, (tk+1575), .str y1 (tk+1572)⟩, ⟨y6, (tk+1576), .ref (N+884+1)⟩, ⟨y7, (tk+1578), .ref (N+884+2)⟩, ⟨y8, (tk+1582), .int (5) (tk+1581)⟩, ⟨y9, (tk+1583), .int (0) (tk+1579)⟩] 7), (zl [] 0), (zb (N+884+1)), (zt [.int (0) (tk+1579), .int (5) (tk+1581)]), zi, (zt []), (zs (N+884+5))]) 7 11
  []) /\ ∀ M K a0 a1 k0 k1 k2 k3 k4 k5 k6 k7 k8 k9 k10 k11 k12 k13 k14 k15 Eo Ee : Nat, Ev 340 (wf w b1 b2 false) [(N+884)] 1 M K [] [(fA (wf w b1 b2 false).params E1 a0 a1 5 5 Fo k0 k1 k2 k3 k4 k5 k6 k7 k8 k9 k10 k11 k12 k13 [⟨Jv, k14, .int (3) k15⟩, ⟨Jy, Eo, .str Kd Ee⟩] 10)] 53 0x0100000101 (Gc w b1 b2 N tk tp).c (Gc w b1 b2 N tk tp).κ (Cb (Gc w b1 b2 N tk tp).t (.ok .next)) [0] (.fin (.ret (.ref a0))) (om [(fA (wf w b1 b2 false).params E1 a0 a1 5 5 Fo k0 k1 k2 k3 k4 k5 k6 k7 k8 k9 k10 k11 k12 k13 [⟨Jv, k14, .int (3) k15⟩, ⟨Jy, Eo, .str Kd Ee⟩] 10)]) 0 0
  [] := by
 cases b1 <;> exact ⟨by kernel_rfl, fun _ _ _ _ _ _ _ _ _ _ _ _ _ _ _ _ _ _ _ _ _ _ => by kernel_rfl⟩
theorem Pa (L A1 A2 A3 A4 A5 A6 k0 k1 k2 k3 k4 k5 k6 k7 k8 k9 k10 k11 : Nat) : Ec 340 (wf w b1 b2 false) [105, L, A1, A2, A3, A4, A5, A6] 8 N tk [] [B9, (zF (wf w b1 b2 false).params [⟨y3, k0, .str E1 k1⟩, ⟨y4, k2, .str y2 k3⟩, ⟨y5, k4, .str y1 k5⟩, ⟨y6, k6, .ref A1⟩, ⟨y7, k7, .ref A2⟩, ⟨y8, k8, .int (5) k9⟩, ⟨y9, k10, .int (0) k11⟩] 7), (zl [] 0), (zb A1), (zt [.int (0) k11, .int (5) k9]), zi, (zt []), (zs A5)] 487 Ahj (Av (wf w b1 b2 false).params L) [0, 1, 2, 3, 4, 5, 6, 7] (.again (Av (wf w b1 b2 false).params L)) (om [Dw (N+884+6), (fA (wf w b1 b2 false).params E1 A1 A2 5 4 Uf k0 k1 k2 k3 k4 k5 k6 k7 k8 k9 k10 (tk+1612) (tk+1574) (tk+1573) [⟨Jv, (tk+1581), .int (3) (tk+1592)⟩, ⟨Jy, (tk+1597), .str Kd (tk+1623)⟩] 10), (zl [.str R2 (tk+1627)] 1), (zb A1), (zt [.int (0) k11, .int (5) k9]), zi, (zt []), (zs A5)]) 10 55
  [] := by
 cases b1 <;> kernel_rfl
noncomputable abbrev Ga (tp X : Nat) : Res := Ay 340 (wf w b1 b2 true) [105] 1 N tk [] [Dw X] 172 Hx5 (.call (.ref 110) ⟨[.str E1 tp, .str ⟨⟨Aj⟩⟩ (tk+1568), .str y1 (tk+1572)], []⟩) .base (.pure (.again (.call (.ref 110) ⟨[.str E1 tp, .str ⟨⟨Aj⟩⟩ (tk+1568), .str y1 (tk+1572)], []⟩)))
theorem Jh (tp X : Nat) : (Ev 340 (wf w b1 b2 true) [105] 1 N tk [] [Dw X] 172 Hx5 (.call (.ref 110) ⟨[.str E1 tp, .str ⟨⟨Aj⟩⟩ (tk+1568), .str y1 (tk+1572)], []⟩) .base (.pure (.again (.call (.ref 110) ⟨[.str E1 tp, .str ⟨⟨Aj⟩⟩ (tk+1568), .str y1 (tk+1572)], []⟩))) [0, 1, 2, 3, 4, 5, 6, 7] (.call (Av (wf w b1 b2 true).params (N+884)) 1) (om [Dw X, (zF (wf w b1 b2 true).params [⟨y3, (tk+1573), .str E1 tp⟩, ⟨y4, (tk+1574), .str y2 (tk+1568)⟩, ⟨y5, (tk+1575), .str y1 (tk+1572)⟩, ⟨y6, (tk+1576), .ref (N+884+1)⟩, ⟨y7, (tk+1578), .ref (N+884+2)⟩, ⟨y8, (tk+1582), .int (5) (tk+1581)⟩, ⟨y9, (tk+1583), .int (0) (tk+1579)⟩] 7), (zl [] 0), (zb (N+884+1)), (zt [.int (0) (tk+1579), .int (5) (tk+1581)]), zi, (zt []), (zs (N+884+5))]) 7 11
  []) /\ ∀ M K a0 a1 k0 k1 k2 k3 k4 k5 k6 k7 k8 k9 k10 k11 k12 k13 k14 k15 Eo Ee : Nat, Ev 340 (wf w b1 b2 true) [(N+884)] 1 M K [] [(fA (wf w b1 b2 true).params E1 a0 a1 5 5 Fo k0 k1 k2 k3 k4 k5 k6 k7 k8 k9 k10 k11 k12 k13 [⟨Jv, k14, .int (3) k15⟩, ⟨Jy, Eo, .str Kd Ee⟩] 10)] 53 0x0100000101 (Ga w b1 b2 N tk tp X).c (Ga w b1 b2 N tk tp X).κ (Cb (Ga w b1 b2 N tk tp X).t (.ok .next)) [0] (.fin (.ret (.ref a0))) (om [(fA (wf w b1 b2 true).params E1 a0 a1 5 5 Fo k0 k1 k2 k3 k4 k5 k6 k7 k8 k9 k10 k11 k12 k13 [⟨Jv, k14, .int (3) k15⟩, ⟨Jy, Eo, .str Kd Ee⟩] 10)]) 0 0
  [] := by
 cases b1 <;> exact ⟨by kernel_rfl, fun _ _ _ _ _ _ _ _ _ _ _ _ _ _ _ _ _ _ _ _ _ _ => by kernel_rfl⟩
noncomputable abbrev Agj : Nat := (x2 0x23330333404222200cccc0020000200200022200222bb00bbbb00000a000200010000002200200222999900222002200002200220220020000220022000002200222200200002200222220020020022200222002200220)
theorem Oh (L A1 A2 A3 A4 A5 A6 k0 k1 k2 k3 k4 k5 k6 k7 k8 k9 k10 k11 X : Nat) : Ec 340 (wf w b1 b2 true) [105, L, A1, A2, A3, A4, A5, A6] 8 N tk [] [Dw X, (zF (wf w b1 b2 true).params [⟨y3, k0, .str E1 k1⟩, ⟨y4, k2, .str y2 k3⟩, ⟨y5, k4, .str y1 k5⟩, ⟨y6, k6, .ref A1⟩, ⟨y7, k7, .ref A2⟩, ⟨y8, k8, .int (5) k9⟩, ⟨y9, k10, .int (0) k11⟩] 7), (zl [] 0), (zb A1), (zt [.int (0) k11, .int (5) k9]), zi, (zt []), (zs A5)] 473 Agj (Av (wf w b1 b2 true).params L) [0, 1, 2, 3, 4, 5, 6, 7] (.again (Av (wf w b1 b2 true).params L)) (om [Dw X, (fA (wf w b1 b2 true).params E1 A1 A2 5 4 Uf k0 k1 k2 k3 k4 k5 k6 k7 k8 k9 k10 (tk+1606) (tk+1574) (tk+1573) [⟨Jv, (tk+1581), .int (3) (tk+1592)⟩, ⟨Jy, (tk+1597), .str Kd (tk+1617)⟩] 10), (zl [.str R2 (tk+1622)] 1), (zb A1), (zt [.int (0) k11, .int (5) k9]), zi, (zt []), (zs A5)]) 4 50
  [] := by
 cases b1 <;> kernel_rfl
noncomputable abbrev Gf (tp X : Nat) : Res := Ay 340 (wf w b1 b2 false) [105] 1 N tk [] [Dw X] 172 Hx5 (.call (.ref 110) ⟨[.str E1 tp, .str ⟨⟨Aj⟩⟩ (tk+1568), .str y1 (tk+1572)], []⟩) .base (.pure (.again (.call (.ref 110) ⟨[.str E1 tp, .str ⟨⟨Aj⟩⟩ (tk+1568), .str y1 (tk+1572)], []⟩)))
theorem Jl (tp X : Nat) : (Ev 340 (wf w b1 b2 false) [105] 1 N tk [] [Dw X] 172 Hx5 (.call (.ref 110) ⟨[.str E1 tp, .str ⟨⟨Aj⟩⟩ (tk+1568), .str y1 (tk+1572)], []⟩) .base (.pure (.again (.call (.ref 110) ⟨[.str E1 tp, .str ⟨⟨Aj⟩⟩ (tk+1568), .str y1 (tk+1572)], []⟩))) [0, 1, 2, 3, 4, 5, 6, 7] (.call (Av (wf w b1 b2 false).params (N+884)) 1) (om [Dw X, (zF (wf w b1 b2 false).params [⟨y3, (tk+1573), .str E1 tp⟩, ⟨y4, (tk+1574), .str y2 (tk+1568)⟩, ⟨y5, (tk+1575), .str y1 (tk+1572)⟩, ⟨y6, (tk+1576), .ref (N+884+1)⟩, ⟨y7, (tk+1578), .ref (N+884+2)⟩, ⟨y8, (tk+1582), .int (5) (tk+1581)⟩, ⟨y9, (tk+1583), .int (0) (tk+1579)⟩] 7), (zl [] 0), (zb (N+884+1)), (zt [.int (0) (tk+1579), .int (5) (tk+1581)]), zi, (zt []), (zs (N+884+5))]) 7 11
  []) /\ ∀ M K a0 a1 k0 k1 k2 k3 k4 k5 k6 k7 k8 k9 k10 k11 k12 k13 k14 k15 Eo Ee : Nat, Ev 340 (wf w b1 b2 false) [(N+884)] 1 M K [] [(fA (wf w b1 b2 false).params E1 a0 a1 5 5 Fo k0 k1 k2 k3 k4 k5 k6 k7 k8 k9 k10 k11 k12 k13 [⟨Jv, k14, .int (3) k15⟩, ⟨Jy, Eo, .str Kd Ee⟩] 10)] 53 0x0100000101 (Gf w b1 b2 N tk tp X).c (Gf w b1 b2 N tk tp X).κ (Cb (Gf w b1 b2 N tk tp X).t (.ok .next)) [0] (.fin (.ret (.ref a0))) (om [(fA (wf w b1 b2 false).params E1 a0 a1 5 5 Fo k0 k1 k2 k3 k4 k5 k6 k7 k8 k9 k10 k11 k12 k13 [⟨Jv, k14, .int (3) k15⟩, ⟨Jy, Eo, .str Kd Ee⟩] 10)]) 0 0
  [] := by
 cases b1 <;> exact ⟨by kernel_rfl, fun _ _ _ _ _ _ _ _ _ _ _ _ _ _ _ _ _ _ _ _ _ _ => by kernel_rfl⟩
theorem O3 (L A1 A2 A3 A4 A5 A6 k0 k1 k2 k3 k4 k5 k6 k7 k8 k9 k10 k11 X : Nat) : Ec 340 (wf w b1 b2 false) [105, L, A1, A2, A3, A4, A5, A6] 8 N tk [] [Dw X, (zF (wf w b1 b2 false).params [⟨y3, k0, .str E1 k1⟩, ⟨y4, k2, .str y2 k3⟩, ⟨y5, k4, .str y1 k5⟩, ⟨y6, k6, .ref A1⟩, ⟨y7, k7, .ref A2⟩, ⟨y8, k8, .int (5) k9⟩, ⟨y9, k10, .int (0) k11⟩] 7), (zl [] 0), (zb A1), (zt [.int (0) k11, .int (5) k9]), zi, (zt []), (zs A5)] 472 Agj (Av (wf w b1 b2 false).params L) [0, 1, 2, 3, 4, 5, 6, 7] (.again (Av (wf w b1 b2 false).params L)) (om [Dw X, (fA (wf w b1 b2 false).params E1 A1 A2 5 4 Uf k0 k1 k2 k3 k4 k5 k6 k7 k8 k9 k10 (tk+1606) (tk+1574) (tk+1573) [⟨Jv, (tk+1581), .int (3) (tk+1592)⟩, ⟨Jy, (tk+1597), .str Kd (tk+1617)⟩] 10), (zl [.str R2 (tk+1621)] 1), (zb A1), (zt [.int (0) k11, .int (5) k9]), zi, (zt []), (zs A5)]) 4 49
  [] := by
 cases b1 <;> kernel_rfl
end
end Mine
section
open PySem.Builtin PySem.Builtin.Str
namespace Mine
section
variable {w : World} {tok sz : Nat}
theorem Il {s : Str} {t : Nat} (h : (s.length : Int) < 2 ^ 63) : Ac pw w (.builtin "len" ⟨[.str s t], []⟩) tok sz [] [] [] (.int (s.length : Int) (tok + 1)) 2 := by
 intro A s' R hA hD hg ht hn hrd hR
 exact Cq (w := w) (s := s) (t := t) (tok := tok) h A s' R ht hR
theorem Qu {a b : Int} {ta tb : Nat} {r : Bool} (h : decide (a < b) = r) : Ac pw w (.builtin "int.__lt__" ⟨[.int a ta, .int b tb], []⟩) tok sz [] [] [] (.bool r) 0 := by
 intro A s R hA hD hg ht hn hrd hR
 subst ht h
 refine codeAny_builtin F.entry_int_lt ?_
 rw [Around.under_plainId F.slot_int_lt.plain]
 exact gives_int_lt a b ta tb _ _ _ _ _ hR
theorem P8 {x : Str} {i : Int} {t u c : Nat} (hr : (decide (i < -(2 ^ 63 : Int)) || decide (i >= 2 ^ 63)) = false) (h : (seqIndex? i x.length).bind (x.cps[·]?) = some c) :
  Ac pw w (.builtin "str.__getitem__" ⟨[.str x t, .int i u], []⟩) tok sz [] [] [] (.str ⟨#[c]⟩ tok) 1 := by
 intro A s R hA hD hg ht hn hrd hR
 subst ht
 refine codeAny_builtin F.entry_str_getitem ?_
 rw [Around.under_plainId F.slot_str_getitem.plain]
 exact gives_str_getitem x i t u c hr h _ _ _ _ _ ⟨(show 1 <= sizeLine by decide), hR⟩
end
end Mine
end
namespace Mine
theorem Au {D : Nat} {w : World} {c : Code} {κ : Kn} {t : Sem Fin} {olds : List Nat} {objs objs' : List Obj} {k N tk n hs : Nat} {cs : List Gv} {e : End} {ws : List Nat} {m i : Nat} {obs : List Prop} {M : List (Nat × Obj)}
  (ev : Ev D w olds k N tk cs objs n hs c κ t ws e (objs'.map some) m i obs)
  (hA : A.handled = none) (hD : A.depth <= D) (H : At w s (olds.zip objs ++ M)) (hk : olds.length = k) (ho : objs.length = k) (ho' : objs'.length = k)
  (hw : ws = List.range k)
  (hN : s.heap.objs.size = N + 884) (hT : s.toks = tk + 1573) (hobs : Iv obs)
  (cont : ∀ s', At w s' (olds.zip objs' ++ M) -> Keeps olds s s' -> s'.toks = s.toks + i -> s'.heap.objs.size = s.heap.objs.size + m -> Xw w A R A.depth (Ay D w olds k N tk cs objs n hs c κ t) e s') :
  MK w A R c κ t s := by
 refine Ah ev hA hD H.left hk ho ho' hw hN hT hobs ?_
 intro s' H' K' hT' hS'
 refine cont s' (At.next H H' (K'.mono ?_) ?_) K' hT' hS'
 ·intro y hy
  rw [Gs _ _ (by lia)]
  exact hy
 ·intro q hq
  left
  rw [Gs _ _ (by lia)]
  exact (List.of_mem_zip (a := q.1) (b := q.2) hq).1
theorem At.pick7 {w : World} {p0 p1 p2 p3 p4 p5 p6 : Nat × Obj} {F : List (Nat × Obj)} (H : At w s (p0 :: p1 :: p2 :: p3 :: p4 :: p5 :: p6 :: F)) : At w s (p1 :: F) := by
 have sb : List.Sublist (p1 :: F) (p0 :: p1 :: p2 :: p3 :: p4 :: p5 :: p6 :: F) := .cons _ (.cons₂ _ (.cons _ (.cons _ (.cons _ (.cons _ (.cons _ (List.Sublist.refl _)))))))
 exact H.sub (fun q hq => sb.subset hq) ((sb.map (·.1)).nodup H.nd)
theorem At.rot8 {w : World} {q p0 p1 p2 p3 p4 p5 p6 : Nat × Obj} {F : List (Nat × Obj)} (H : At w s (q :: p0 :: p1 :: p2 :: p3 :: p4 :: p5 :: p6 :: F)) : At w s (p0 :: p1 :: p2 :: p3 :: p4 :: p5 :: p6 :: q :: F) :=
 H.perm (List.perm_middle (l₁ := [p0, p1, p2, p3, p4, p5, p6]) (l₂ := F))
noncomputable def Cz : Nat -> List (List Nat)
 | 0 => [Aj, [92, 46], [111], [114], [103]]
 | 1 => [[97, 110, 121], [92, 46], [111], [114], [103]]
 | 2 => [[119], [119], [119], [92, 46], Aj]
 | 3 => [[91, 97, 98, 93], [92, 46], [111], [114], [103]]
 | 4 => [[91, 94, 97, 93], Aj]
 | 5 => [Aj, [97], Aj]
 | 6 => [[120]]
 | 7 => [[97], [97, 110, 121]]
 | _ => []
noncomputable def Du (o : Obj) : Prop := o = B9 \/ ∃ X, o = Dw X
section
variable (U : Fl) (w : World) (b1 b2 : Bool)
theorem Ael (L : Nat) : Av U.P L = .whileLoop (Wn (Fg U.P)) ([B5 (Sv (Fg U.P)) 0, B5 (Sv (Fg U.P)) 1] ++ [No U.P]) [] (Cg U.P L) := by kernel_rfl
noncomputable def ifP : Stmt -> Pos | .If _ _ _ p => p | _ => ⟨0, 0, 0, 0⟩
theorem Ui : No U.P = .If (Fx (No U.P)) [Eh U.P] (ifE (No U.P)) (ifP (No U.P)) := by kernel_rfl
noncomputable def orP : Expr -> Pos | .BoolOp _ _ p => p | _ => ⟨0, 0, 0, 0⟩
theorem V8 : Eh U.P = .If (.BoolOp .Or [Dt (Pe (Fx (Eh U.P))) 0, .Compare (C2 (Dt (Pe (Fx (Eh U.P))) 1)) [.IsNot] [Bi (Dt (Pe (Fx (Eh U.P))) 1)] (Lo (Dt (Pe (Fx (Eh U.P))) 1))] (orP (Fx (Eh U.P)))) (Wj (Eh U.P)) (ifE (Eh U.P)) (ifP (Eh U.P)) := by kernel_rfl
theorem T5 : behindInMarks .IsNot (Bi (Dt (Pe (Fx (Eh U.P))) 1)) = false := by kernel_rfl
end
section
variable {U : Fl} {w : World} {b1 b2 : Bool}
theorem Al2 {L A1 A2 k0 k1 k2 k3 k4 k5 k6 k7 k8 k9 k10 k11 k12 k13 k14 k15 Eo Ee : Nat} {M : List (Nat × Obj)} (hA : A.handled = none) (hD : A.depth <= 340) (h0 : (Ee == 0 || k3 == 0) = false) (h1 : (Ee == k3) = false)
  (H : At U.W s ((L, (fA U.P Lh A1 A2 5 4 ⟨#[46]⟩ k0 k1 k2 k3 k4 k5 k6 k7 k8 k9 k10 k11 k12 k13 [] 8)) :: (A1, (zl [.str J3 k14, .str J3 k15, .str J3 Eo, .str Nv Ee] 4)) :: (A2, (zb A1)) :: M))
  (cont : ∀ s' u1 u2, At U.W s' ((L, (fA U.P Lh A1 A2 5 5 Fo k0 k1 k2 k3 k4 k5 k6 k7 k8 k9 k10 u1 k12 u2 [] 8)) :: (A1, (zl [.str J3 k14, .str J3 k15, .str J3 Eo, .str Nv Ee, .str y2 k3] 5)) :: (A2, (zb A1)) :: M) -> Keeps [L, A1, A2] s s' -> R (.ok .next) s') :
  codeAny (Ak U.W) A (Av U.P L) R s := by
 have k7 : ∀ {X : List Nat} {a b : Shared}, Keeps X a b -> (∀ y ∈ X, y ∈ [L, A1, A2]) -> Keeps [L, A1, A2] a b := fun h g => h.mono g
 have m1 : ∀ y ∈ [L], y ∈ [L, A1, A2] := fun y h => by cases h with | head => exact .head _ | tail _ h => cases h
 have m2 : ∀ y ∈ [L, A1], y ∈ [L, A1, A2] := fun y h => by cases h with | head => exact .head _ | tail _ h => cases h with | head => exact .tail _ (.head _) | tail _ h => cases h
 rw [Ael]
 refine Dj ?_
 obtain ⟨N3, tk3, hN3, hT3⟩ := H.NT
 refine B8 (Bs (Au (olds := [L]) (Aa5 U N3 tk3 ..) hA (dl hD) H rfl rfl rfl rfl hN3 hT3 trivial ?_))
 intro s3 H3 K3 _ _
 clear hN3 hT3
 refine Bn ?_
 obtain ⟨N4, tk4, hN4, hT4⟩ := H3.NT
 refine Bm (Bj (Au (olds := [L]) (Y9 U N4 tk4 ..) hA (dl hD) H3 rfl rfl rfl rfl hN4 hT4 trivial ?_))
 intro s4 H4 K4 _ _
 clear hN4 hT4
 refine B4 ?_
 rw [Ui]
 refine Fr ?_
 obtain ⟨N5, tk5, hN5, hT5⟩ := H4.NT
 refine B8 (Bs (Au (olds := [L]) (Wz U N5 tk5 ..) hA (dl hD) H4 rfl rfl rfl rfl hN5 hT5 trivial ?_))
 intro s5 H5 K5 _ _
 clear hN5 hT5
 refine B4 ?_
 rw [V8]
 refine Fr (Fm (x := Nv) (y := S8 Aj) (u := k3) (T5 U) ?_)
 obtain ⟨N6, tk6, hN6, hT6⟩ := H5.NT
 refine B8 (Bs (Au (olds := [L, A1]) (Aa3 U N6 tk6 ..) hA (dl hD) H5 rfl rfl rfl rfl hN6 hT6 trivial ?_))
 intro s6 H6 K6 _ _
 clear hN6 hT6
 refine ⟨rfl, ?_⟩
 obtain ⟨N7, tk7, hN7, hT7⟩ := H6.NT
 refine Bf (Br (Au (olds := [L, A1]) (Za U N7 tk7 ..) hA (dl hD) H6 rfl rfl rfl rfl hN7 hT7 trivial ?_))
 intro s7 H7 K7 _ _
 clear hN7 hT7
 refine ⟨_, rfl, ?_⟩
 obtain ⟨N8, tk8, hN8, hT8⟩ := H7.NT
 refine Bf (Br (Au (olds := [L]) (Aaa U N8 tk8 ..) hA (dl hD) H7 rfl rfl rfl rfl hN8 hT8 trivial ?_))
 intro s8 H8 K8 _ _
 clear hN8 hT8
 refine ⟨rfl, h0, h1, by decide, ?_⟩
 obtain ⟨N9, tk9, hN9, hT9⟩ := H8.NT
 refine Bm (Bj (Au (olds := [L, A1, A2]) (Aa0 U N9 tk9 ..) hA (dl hD) H8 rfl rfl rfl rfl hN9 hT9 trivial ?_))
 intro s9 H9 K9 _ _
 clear hN9 hT9
 refine Aw (Aw ?_)
 refine Dj ?_
 obtain ⟨N10, tk10, hN10, hT10⟩ := H9.NT
 refine B8 (Bs (Au (olds := [L]) (Xx U N10 tk10 ..) hA (dl hD) H9 rfl rfl rfl rfl hN10 hT10 trivial ?_))
 intro s10 H10 K10 _ _
 clear hN10 hT10
 exact Aw (cont s10 _ _ H10 ((k7 K3 m1).trans ((k7 K4 m1).trans ((k7 K5 m1).trans ((k7 K6 m2).trans ((k7 K7 m2).trans ((k7 K8 m1).trans (K9.trans (k7 K10 m1)))))))))
theorem Ahe {L A1 A2 k0 k1 k2 k3 k4 k5 k6 k7 k8 k9 k10 k11 k12 k13 k14 : Nat} {M : List (Nat × Obj)} (hA : A.handled = none) (hD : A.depth <= 340) (h0 : (k14 == 0 || k3 == 0) = false) (h1 : (k14 == k3) = false)
  (H : At U.W s ((L, (fA U.P Li A1 A2 3 2 Hs k0 k1 k2 k3 k4 k5 k6 k7 k8 k9 k10 k11 k12 k13 [] 8)) :: (A1, (zl [.str y2 k3, .str Hs k14] 2)) :: (A2, (zb A1)) :: M))
  (cont : ∀ s' u1 u2, At U.W s' ((L, (fA U.P Li A1 A2 3 3 Fo k0 k1 k2 k3 k4 k5 k6 k7 k8 k9 k10 u1 k12 u2 [] 8)) :: (A1, (zl [.str y2 k3, .str Hs k14, .str y2 k3] 3)) :: (A2, (zb A1)) :: M) -> Keeps [L, A1, A2] s s' -> R (.ok .next) s') :
  codeAny (Ak U.W) A (Av U.P L) R s := by
 have k7 : ∀ {X : List Nat} {a b : Shared}, Keeps X a b -> (∀ y ∈ X, y ∈ [L, A1, A2]) -> Keeps [L, A1, A2] a b := fun h g => h.mono g
 have m1 : ∀ y ∈ [L], y ∈ [L, A1, A2] := fun y h => by cases h with | head => exact .head _ | tail _ h => cases h
 have m2 : ∀ y ∈ [L, A1], y ∈ [L, A1, A2] := fun y h => by cases h with | head => exact .head _ | tail _ h => cases h with | head => exact .tail _ (.head _) | tail _ h => cases h
 rw [Ael]
 refine Dj ?_
 obtain ⟨N3, tk3, hN3, hT3⟩ := H.NT
 refine B8 (Bs (Au (olds := [L]) (X2 U N3 tk3 ..) hA (dl hD) H rfl rfl rfl rfl hN3 hT3 trivial ?_))
 intro s3 H3 K3 _ _
 clear hN3 hT3
 refine Bn ?_
 obtain ⟨N4, tk4, hN4, hT4⟩ := H3.NT
 refine Bm (Bj (Au (olds := [L]) (Zh U N4 tk4 ..) hA (dl hD) H3 rfl rfl rfl rfl hN4 hT4 trivial ?_))
 intro s4 H4 K4 _ _
 clear hN4 hT4
 refine B4 ?_
 rw [Ui]
 refine Fr ?_
 obtain ⟨N5, tk5, hN5, hT5⟩ := H4.NT
 refine B8 (Bs (Au (olds := [L]) (Zg U N5 tk5 ..) hA (dl hD) H4 rfl rfl rfl rfl hN5 hT5 trivial ?_))
 intro s5 H5 K5 _ _
 clear hN5 hT5
 refine B4 ?_
 rw [V8]
 refine Fr (Fm (x := Hs) (y := S8 Aj) (u := k3) (T5 U) ?_)
 obtain ⟨N6, tk6, hN6, hT6⟩ := H5.NT
 refine B8 (Bs (Au (olds := [L, A1]) (Xs U N6 tk6 ..) hA (dl hD) H5 rfl rfl rfl rfl hN6 hT6 trivial ?_))
 intro s6 H6 K6 _ _
 clear hN6 hT6
 refine ⟨rfl, ?_⟩
 obtain ⟨N7, tk7, hN7, hT7⟩ := H6.NT
 refine Bf (Br (Au (olds := [L, A1]) (Y8 U N7 tk7 ..) hA (dl hD) H6 rfl rfl rfl rfl hN7 hT7 trivial ?_))
 intro s7 H7 K7 _ _
 clear hN7 hT7
 refine ⟨_, rfl, ?_⟩
 obtain ⟨N8, tk8, hN8, hT8⟩ := H7.NT
 refine Bf (Br (Au (olds := [L]) (X6 U N8 tk8 ..) hA (dl hD) H7 rfl rfl rfl rfl hN8 hT8 trivial ?_))
 intro s8 H8 K8 _ _
 clear hN8 hT8
 refine ⟨rfl, h0, h1, by decide, ?_⟩
 obtain ⟨N9, tk9, hN9, hT9⟩ := H8.NT
 refine Bm (Bj (Au (olds := [L, A1, A2]) (Yt U N9 tk9 ..) hA (dl hD) H8 rfl rfl rfl rfl hN9 hT9 trivial ?_))
 intro s9 H9 K9 _ _
 clear hN9 hT9
 refine Aw (Aw ?_)
 refine Dj ?_
 obtain ⟨N10, tk10, hN10, hT10⟩ := H9.NT
 refine B8 (Bs (Au (olds := [L]) (Xl U N10 tk10 ..) hA (dl hD) H9 rfl rfl rfl rfl hN10 hT10 trivial ?_))
 intro s10 H10 K10 _ _
 clear hN10 hT10
 exact Aw (cont s10 _ _ H10 ((k7 K3 m1).trans ((k7 K4 m1).trans ((k7 K5 m1).trans ((k7 K6 m2).trans ((k7 K7 m2).trans ((k7 K8 m1).trans (K9.trans (k7 K10 m1)))))))))
theorem Ra {L A1 A2 k0 k1 k2 k3 k4 k5 k6 k7 k8 k9 k10 k11 k12 k13 k14 k15 Eo Ee k18 : Nat} {M : List (Nat × Obj)} (hA : A.handled = none) (hD : A.depth <= 340) (h0 : (k18 == 0 || k3 == 0) = false) (h1 : (k18 == k3) = false)
  (H : At U.W s ((L, (fA U.P E1 A1 A2 5 4 Uf k0 k1 k2 k3 k4 k5 k6 k7 k8 k9 k10 k11 k12 k13 [⟨Jv, k14, .int (3) k15⟩, ⟨Jy, Eo, .str Kd Ee⟩] 10)) :: (A1, (zl [.str R2 k18] 1)) :: (A2, (zb A1)) :: M))
  (cont : ∀ s' u1 u2, At U.W s' ((L, (fA U.P E1 A1 A2 5 5 Fo k0 k1 k2 k3 k4 k5 k6 k7 k8 k9 k10 u1 k12 u2 [⟨Jv, k14, .int (3) k15⟩, ⟨Jy, Eo, .str Kd Ee⟩] 10)) :: (A1, (zl [.str R2 k18, .str y2 k3] 2)) :: (A2, (zb A1)) :: M) -> Keeps [L, A1, A2] s s' -> R (.ok .next) s') :
  codeAny (Ak U.W) A (Av U.P L) R s := by
 have k7 : ∀ {X : List Nat} {a b : Shared}, Keeps X a b -> (∀ y ∈ X, y ∈ [L, A1, A2]) -> Keeps [L, A1, A2] a b := fun h g => h.mono g
 have m1 : ∀ y ∈ [L], y ∈ [L, A1, A2] := fun y h => by cases h with | head => exact .head _ | tail _ h => cases h
 have m2 : ∀ y ∈ [L, A1], y ∈ [L, A1, A2] := fun y h => by cases h with | head => exact .head _ | tail _ h => cases h with | head => exact .tail _ (.head _) | tail _ h => cases h
 rw [Ael]
 refine Dj ?_
 obtain ⟨N3, tk3, hN3, hT3⟩ := H.NT
 refine B8 (Bs (Au (olds := [L]) (Z2 U N3 tk3 ..) hA (dl hD) H rfl rfl rfl rfl hN3 hT3 trivial ?_))
 intro s3 H3 K3 _ _
 clear hN3 hT3
 refine Bn ?_
 obtain ⟨N4, tk4, hN4, hT4⟩ := H3.NT
 refine Bm (Bj (Au (olds := [L]) (Zp U N4 tk4 ..) hA (dl hD) H3 rfl rfl rfl rfl hN4 hT4 trivial ?_))
 intro s4 H4 K4 _ _
 clear hN4 hT4
 refine B4 ?_
 rw [Ui]
 refine Fr ?_
 obtain ⟨N5, tk5, hN5, hT5⟩ := H4.NT
 refine B8 (Bs (Au (olds := [L]) (Xp U N5 tk5 ..) hA (dl hD) H4 rfl rfl rfl rfl hN5 hT5 trivial ?_))
 intro s5 H5 K5 _ _
 clear hN5 hT5
 refine B4 ?_
 rw [V8]
 refine Fr (Fm (x := R2) (y := S8 Aj) (u := k3) (T5 U) ?_)
 obtain ⟨N6, tk6, hN6, hT6⟩ := H5.NT
 refine B8 (Bs (Au (olds := [L, A1]) (Aan U N6 tk6 ..) hA (dl hD) H5 rfl rfl rfl rfl hN6 hT6 trivial ?_))
 intro s6 H6 K6 _ _
 clear hN6 hT6
 refine ⟨rfl, ?_⟩
 obtain ⟨N7, tk7, hN7, hT7⟩ := H6.NT
 refine Bf (Br (Au (olds := [L, A1]) (Yi U N7 tk7 ..) hA (dl hD) H6 rfl rfl rfl rfl hN7 hT7 trivial ?_))
 intro s7 H7 K7 _ _
 clear hN7 hT7
 refine ⟨_, rfl, ?_⟩
 obtain ⟨N8, tk8, hN8, hT8⟩ := H7.NT
 refine Bf (Br (Au (olds := [L]) (Aa2 U N8 tk8 ..) hA (dl hD) H7 rfl rfl rfl rfl hN8 hT8 trivial ?_))
 intro s8 H8 K8 _ _
 clear hN8 hT8
 refine ⟨rfl, h0, h1, by decide, ?_⟩
 obtain ⟨N9, tk9, hN9, hT9⟩ := H8.NT
 refine Bm (Bj (Au (olds := [L, A1, A2]) (Z9 U N9 tk9 ..) hA (dl hD) H8 rfl rfl rfl rfl hN9 hT9 trivial ?_))
 intro s9 H9 K9 _ _
 clear hN9 hT9
 refine Aw (Aw ?_)
 refine Dj ?_
 obtain ⟨N10, tk10, hN10, hT10⟩ := H9.NT
 refine B8 (Bs (Au (olds := [L]) (Zn U N10 tk10 ..) hA (dl hD) H9 rfl rfl rfl rfl hN10 hT10 trivial ?_))
 intro s10 H10 K10 _ _
 clear hN10 hT10
 exact Aw (cont s10 _ _ H10 ((k7 K3 m1).trans ((k7 K4 m1).trans ((k7 K5 m1).trans ((k7 K6 m2).trans ((k7 K7 m2).trans ((k7 K8 m1).trans (K9.trans (k7 K10 m1)))))))))
theorem Ag6 {tp tk : Nat} {F : List (Nat × Obj)} (hA : A.handled = none) (hD : A.depth <= 330) (hT : s.toks = tk + 1573) (H : At U.W s F)
  (cont : ∀ s' RL vs n, StrsAre vs ((Cz 2).map S8) -> At U.W s' ((RL, A9 vs n) :: F) -> Keeps [] s s' -> s.heap.objs.size <= RL -> R (.ok (.ret (.ref RL))) s') :
  codeAny (Ak U.W) A (.call (.ref 110) ⟨[.str (S8 (As 2)) tp, .str ⟨⟨Aj⟩⟩ (tk+1568), .str ⟨#[97, 110, 121]⟩ (tk+1572)], []⟩) R s := by
 obtain ⟨N, hN⟩ := H.N
 refine Aa (C5 (L := []) (W := [0, 1, 2, 3, 4, 5, 6].zip [_, _, _, _, _, _, _]) (Rh U N tk tp).1 hA (dl hD) H.nil rfl rfl rfl hN hT rfl rfl (by decide) (by decide) trivial ?_)
 intro s1 H1 K1 hT1 hS1
 have H1a := At.next (L := []) (M := F) H H1 K1 (fun q hq => .inr (Nat.le_trans (Nat.le_of_eq hN) (Dd [0, 1, 2, 3, 4, 5, 6] (List.mem_map_of_mem (f := (·.1)) hq))))
 intro A' hA' hD'
 obtain ⟨N2, tk2, hN2, hT2⟩ := H1a.NT
 have e2 : tk2 = tk + 11 := by lia
 subst e2
 refine Aa (Au (M := F) (olds := [N+884, N+884+1, N+884+2, N+884+3, N+884+4, N+884+5, N+884+6]) (Wr U N2 (tk+11) ..) hA' (Dv hD' hD) H1a rfl rfl rfl rfl hN2 hT2 trivial ?_)
 intro s2 H2 K2 hT3 hS2
 refine ⟨rfl, ?_⟩
 refine Al2 hA' (Dv hD' hD) (by first | (simp; done) | (simp; lia)) (by first | (simp; done) | (simp; lia)) H2 ?_
 intro s10 u1 u2 H10 K3
 obtain ⟨N11, tk11, hN11, hT11⟩ := H10.NT
 refine Au (olds := [N+884]) ((Rh U N tk tp).2 N11 tk11 _ _ _ _ _ _ _ _ _ _ _ _ _ _ _ _) hA (dl hD) H10 rfl rfl rfl rfl hN11 hT11 trivial ?_
 intro s11 H11 K11 _ _
 refine cont s11 (N+884+1) _ _ (.cons _ _ (.cons _ _ (.cons _ _ (.cons _ _ (.cons _ _ .nil))))) (At.pick7 H11) ?_ (by lia)
 have k7 : ∀ {X : List Nat} {a b : Shared}, Keeps X a b -> (∀ y ∈ X, y ∈ [N+884, N+884+1, N+884+2, N+884+3, N+884+4, N+884+5, N+884+6]) -> Keeps [N+884, N+884+1, N+884+2, N+884+3, N+884+4, N+884+5, N+884+6] a b := fun h g => h.mono g
 have mz : ∀ y ∈ [N+884, N+884+1, N+884+2], y ∈ [N+884, N+884+1, N+884+2, N+884+3, N+884+4, N+884+5, N+884+6] := fun y h => (List.sublist_append_left [N+884, N+884+1, N+884+2] [N+884+3, N+884+4, N+884+5, N+884+6]).subset h
 refine Keeps.trans_new (X := []) (Y := [N+884, N+884+1, N+884+2, N+884+3, N+884+4, N+884+5, N+884+6]) K1 (K2.trans ((k7 K3 mz).trans (k7 K11 (by simp)))) ?_
 exact fun y hy => Nat.le_trans (Nat.le_of_eq hN) (Dd [0, 1, 2, 3, 4, 5, 6] hy)
theorem Akx {tp tk : Nat} {F : List (Nat × Obj)} (hA : A.handled = none) (hD : A.depth <= 330) (hT : s.toks = tk + 1573) (H : At U.W s F)
  (cont : ∀ s' RL vs n, StrsAre vs ((Cz 5).map S8) -> At U.W s' ((RL, A9 vs n) :: F) -> Keeps [] s s' -> s.heap.objs.size <= RL -> R (.ok (.ret (.ref RL))) s') :
  codeAny (Ak U.W) A (.call (.ref 110) ⟨[.str (S8 (As 5)) tp, .str ⟨⟨Aj⟩⟩ (tk+1568), .str ⟨#[97, 110, 121]⟩ (tk+1572)], []⟩) R s := by
 obtain ⟨N, hN⟩ := H.N
 refine Aa (C5 (L := []) (W := [0, 1, 2, 3, 4, 5, 6].zip [_, _, _, _, _, _, _]) (Qy U N tk tp).1 hA (dl hD) H.nil rfl rfl rfl hN hT rfl rfl (by decide) (by decide) trivial ?_)
 intro s1 H1 K1 hT1 hS1
 have H1a := At.next (L := []) (M := F) H H1 K1 (fun q hq => .inr (Nat.le_trans (Nat.le_of_eq hN) (Dd [0, 1, 2, 3, 4, 5, 6] (List.mem_map_of_mem (f := (·.1)) hq))))
 intro A' hA' hD'
 obtain ⟨N2, tk2, hN2, hT2⟩ := H1a.NT
 have e2 : tk2 = tk + 11 := by lia
 subst e2
 refine Aa (Au (M := F) (olds := [N+884, N+884+1, N+884+2, N+884+3, N+884+4, N+884+5, N+884+6]) (Y4 U N2 (tk+11) ..) hA' (Dv hD' hD) H1a rfl rfl rfl rfl hN2 hT2 trivial ?_)
 intro s2 H2 K2 hT3 hS2
 refine ⟨rfl, ?_⟩
 refine Ahe hA' (Dv hD' hD) (by first | (simp; done) | (simp; lia)) (by first | (simp; done) | (simp; lia)) H2 ?_
 intro s10 u1 u2 H10 K3
 obtain ⟨N11, tk11, hN11, hT11⟩ := H10.NT
 refine Au (olds := [N+884]) ((Qy U N tk tp).2 N11 tk11 _ _ _ _ _ _ _ _ _ _ _ _ _ _ _ _) hA (dl hD) H10 rfl rfl rfl rfl hN11 hT11 trivial ?_
 intro s11 H11 K11 _ _
 refine cont s11 (N+884+1) _ _ (.cons _ _ (.cons _ _ (.cons _ _ .nil))) (At.pick7 H11) ?_ (by lia)
 have k7 : ∀ {X : List Nat} {a b : Shared}, Keeps X a b -> (∀ y ∈ X, y ∈ [N+884, N+884+1, N+884+2, N+884+3, N+884+4, N+884+5, N+884+6]) -> Keeps [N+884, N+884+1, N+884+2, N+884+3, N+884+4, N+884+5, N+884+6] a b := fun h g => h.mono g
 have mz : ∀ y ∈ [N+884, N+884+1, N+884+2], y ∈ [N+884, N+884+1, N+884+2, N+884+3, N+884+4, N+884+5, N+884+6] := fun y h => (List.sublist_append_left [N+884, N+884+1, N+884+2] [N+884+3, N+884+4, N+884+5, N+884+6]).subset h
 refine Keeps.trans_new (X := []) (Y := [N+884, N+884+1, N+884+2, N+884+3, N+884+4, N+884+5, N+884+6]) K1 (K2.trans ((k7 K3 mz).trans (k7 K11 (by simp)))) ?_
 exact fun y hy => Nat.le_trans (Nat.le_of_eq hN) (Dd [0, 1, 2, 3, 4, 5, 6] hy)
theorem Rw {tp tk : Nat} {F : List (Nat × Obj)} (hA : A.handled = none) (hD : A.depth <= 330) (hT : s.toks = tk + 1573) (H : At (wf w b1 b2 true) s ((105, B9) :: F))
  (cont : ∀ s' RL vs n tb', Du tb' -> StrsAre vs ((Cz 4).map S8) -> At (wf w b1 b2 true) s' ((105, tb') :: (RL, A9 vs n) :: F) -> Keeps [105] s s' -> s.heap.objs.size <= RL -> R (.ok (.ret (.ref RL))) s') :
  codeAny (Ak (wf w b1 b2 true)) A (.call (.ref 110) ⟨[.str (S8 (As 4)) tp, .str ⟨⟨Aj⟩⟩ (tk+1568), .str ⟨#[97, 110, 121]⟩ (tk+1572)], []⟩) R s := by
 obtain ⟨N, hN⟩ := H.N
 refine Aa (C5 (L := [(105, B9)]) (W := [0, 1, 2, 3, 4, 5, 6, 7].zip [_, _, _, _, _, _, _, _]) (J7 w b1 b2 N tk tp).1 hA (dl hD) (H.left (M := F)) rfl rfl rfl hN hT rfl rfl (by decide) (by decide) trivial ?_)
 intro s1 H1 K1 hT1 hS1
 have H1a := At.next (L := [(105, B9)]) (M := F) H H1 K1 (fun q hq => by
  rcases List.mem_cons.mp (show q.1 ∈ 105 :: [N+884, N+884+1, N+884+2, N+884+3, N+884+4, N+884+5, N+884+6] from List.mem_map_of_mem (f := (·.1)) hq) with h | h
  ·left; rw [h]; exact .head _
  ·exact .inr (Nat.le_trans (Nat.le_of_eq hN) (Dd [0, 1, 2, 3, 4, 5, 6] h)))
 intro A' hA' hD'
 obtain ⟨N2, tk2, hN2, hT2⟩ := H1a.NT
 have e2 : tk2 = tk + 11 := by lia
 subst e2
 refine Aa (Au (M := F) (olds := [105, N+884, N+884+1, N+884+2, N+884+3, N+884+4, N+884+5, N+884+6]) (Ok w b1 b2 N2 (tk+11) ..) hA' (Dv hD' hD) H1a rfl rfl rfl rfl hN2 hT2 trivial ?_)
 intro s2 H2 K2 hT3 hS2
 refine ⟨rfl, ?_⟩
 have H2 := At.rot8 H2
 refine Ra (U := ⟨b1, w, b2, true⟩) hA' (Dv hD' hD) (by first | (simp; done) | (simp; lia)) (by first | (simp; done) | (simp; lia)) H2 ?_
 intro s10 u1 u2 H10 K3
 obtain ⟨N11, tk11, hN11, hT11⟩ := H10.NT
 refine Au (olds := [N+884]) ((J7 w b1 b2 N tk tp).2 N11 tk11 .. ) hA (dl hD) H10 rfl rfl rfl rfl hN11 hT11 trivial ?_
 intro s11 H11 K11 _ _
 refine cont s11 (N+884+1) _ _ _ (.inr ⟨_, rfl⟩) (.cons _ _ (.cons _ _ .nil)) ((At.pick7 H11).perm (List.Perm.swap _ _ _)) ?_ (by lia)
 have k7 : ∀ {X : List Nat} {a b : Shared}, Keeps X a b -> (∀ y ∈ X, y ∈ [N+884, N+884+1, N+884+2, N+884+3, N+884+4, N+884+5, N+884+6]) -> Keeps ([N+884, N+884+1, N+884+2, N+884+3, N+884+4, N+884+5, N+884+6] ++ [105]) a b := fun h g => h.mono (fun y hy => List.mem_append_left _ (g y hy))
 have mz : ∀ y ∈ [N+884, N+884+1, N+884+2], y ∈ [N+884, N+884+1, N+884+2, N+884+3, N+884+4, N+884+5, N+884+6] := fun y h => (List.sublist_append_left [N+884, N+884+1, N+884+2] [N+884+3, N+884+4, N+884+5, N+884+6]).subset h
 refine Keeps.trans_new (X := [105]) (Y := [N+884, N+884+1, N+884+2, N+884+3, N+884+4, N+884+5, N+884+6]) K1 ((K2.mono (by simp)).trans ((k7 K3 mz).trans (k7 K11 (by simp)))) ?_
 exact fun y hy => Nat.le_trans (Nat.le_of_eq hN) (Dd [0, 1, 2, 3, 4, 5, 6] hy)
theorem S5 {tp tk : Nat} {F : List (Nat × Obj)} (hA : A.handled = none) (hD : A.depth <= 330) (hT : s.toks = tk + 1573) (H : At (wf w b1 b2 false) s ((105, B9) :: F))
  (cont : ∀ s' RL vs n tb', Du tb' -> StrsAre vs ((Cz 4).map S8) -> At (wf w b1 b2 false) s' ((105, tb') :: (RL, A9 vs n) :: F) -> Keeps [105] s s' -> s.heap.objs.size <= RL -> R (.ok (.ret (.ref RL))) s') :
  codeAny (Ak (wf w b1 b2 false)) A (.call (.ref 110) ⟨[.str (S8 (As 4)) tp, .str ⟨⟨Aj⟩⟩ (tk+1568), .str ⟨#[97, 110, 121]⟩ (tk+1572)], []⟩) R s := by
 obtain ⟨N, hN⟩ := H.N
 refine Aa (C5 (L := [(105, B9)]) (W := [0, 1, 2, 3, 4, 5, 6, 7].zip [_, _, _, _, _, _, _, _]) (Ja w b1 b2 N tk tp).1 hA (dl hD) (H.left (M := F)) rfl rfl rfl hN hT rfl rfl (by decide) (by decide) trivial ?_)
 intro s1 H1 K1 hT1 hS1
 have H1a := At.next (L := [(105, B9)]) (M := F) H H1 K1 (fun q hq => by
  rcases List.mem_cons.mp (show q.1 ∈ 105 :: [N+884, N+884+1, N+884+2, N+884+3, N+884+4, N+884+5, N+884+6] from List.mem_map_of_mem (f := (·.1)) hq) with h | h
  ·left; rw [h]; exact .head _
  ·exact .inr (Nat.le_trans (Nat.le_of_eq hN) (Dd [0, 1, 2, 3, 4, 5, 6] h)))
 intro A' hA' hD'
 obtain ⟨N2, tk2, hN2, hT2⟩ := H1a.NT
 have e2 : tk2 = tk + 11 := by lia
 subst e2
 refine Aa (Au (M := F) (olds := [105, N+884, N+884+1, N+884+2, N+884+3, N+884+4, N+884+5, N+884+6]) (Pa w b1 b2 N2 (tk+11) ..) hA' (Dv hD' hD) H1a rfl rfl rfl rfl hN2 hT2 trivial ?_)
 intro s2 H2 K2 hT3 hS2
 refine ⟨rfl, ?_⟩
 have H2 := At.rot8 H2
 refine Ra (U := ⟨b1, w, b2, false⟩) hA' (Dv hD' hD) (by first | (simp; done) | (simp; lia)) (by first | (simp; done) | (simp; lia)) H2 ?_
 intro s10 u1 u2 H10 K3
 obtain ⟨N11, tk11, hN11, hT11⟩ := H10.NT
 refine Au (olds := [N+884]) ((Ja w b1 b2 N tk tp).2 N11 tk11 .. ) hA (dl hD) H10 rfl rfl rfl rfl hN11 hT11 trivial ?_
 intro s11 H11 K11 _ _
 refine cont s11 (N+884+1) _ _ _ (.inr ⟨_, rfl⟩) (.cons _ _ (.cons _ _ .nil)) ((At.pick7 H11).perm (List.Perm.swap _ _ _)) ?_ (by lia)
 have k7 : ∀ {X : List Nat} {a b : Shared}, Keeps X a b -> (∀ y ∈ X, y ∈ [N+884, N+884+1, N+884+2, N+884+3, N+884+4, N+884+5, N+884+6]) -> Keeps ([N+884, N+884+1, N+884+2, N+884+3, N+884+4, N+884+5, N+884+6] ++ [105]) a b := fun h g => h.mono (fun y hy => List.mem_append_left _ (g y hy))
 have mz : ∀ y ∈ [N+884, N+884+1, N+884+2], y ∈ [N+884, N+884+1, N+884+2, N+884+3, N+884+4, N+884+5, N+884+6] := fun y h => (List.sublist_append_left [N+884, N+884+1, N+884+2] [N+884+3, N+884+4, N+884+5, N+884+6]).subset h
 refine Keeps.trans_new (X := [105]) (Y := [N+884, N+884+1, N+884+2, N+884+3, N+884+4, N+884+5, N+884+6]) K1 ((K2.mono (by simp)).trans ((k7 K3 mz).trans (k7 K11 (by simp)))) ?_
 exact fun y hy => Nat.le_trans (Nat.le_of_eq hN) (Dd [0, 1, 2, 3, 4, 5, 6] hy)
theorem Ro {tp tk X : Nat} {F : List (Nat × Obj)} (hA : A.handled = none) (hD : A.depth <= 330) (hT : s.toks = tk + 1573) (H : At (wf w b1 b2 true) s ((105, (Dw X)) :: F))
  (cont : ∀ s' RL vs n tb', Du tb' -> StrsAre vs ((Cz 4).map S8) -> At (wf w b1 b2 true) s' ((105, tb') :: (RL, A9 vs n) :: F) -> Keeps [105] s s' -> s.heap.objs.size <= RL -> R (.ok (.ret (.ref RL))) s') :
  codeAny (Ak (wf w b1 b2 true)) A (.call (.ref 110) ⟨[.str (S8 (As 4)) tp, .str ⟨⟨Aj⟩⟩ (tk+1568), .str ⟨#[97, 110, 121]⟩ (tk+1572)], []⟩) R s := by
 obtain ⟨N, hN⟩ := H.N
 refine Aa (C5 (L := [(105, (Dw X))]) (W := [0, 1, 2, 3, 4, 5, 6, 7].zip [_, _, _, _, _, _, _, _]) (Jh w b1 b2 N tk tp X).1 hA (dl hD) (H.left (M := F)) rfl rfl rfl hN hT rfl rfl (by decide) (by decide) trivial ?_)
 intro s1 H1 K1 hT1 hS1
 have H1a := At.next (L := [(105, (Dw X))]) (M := F) H H1 K1 (fun q hq => by
  rcases List.mem_cons.mp (show q.1 ∈ 105 :: [N+884, N+884+1, N+884+2, N+884+3, N+884+4, N+884+5, N+884+6] from List.mem_map_of_mem (f := (·.1)) hq) with h | h
  ·left; rw [h]; exact .head _
  ·exact .inr (Nat.le_trans (Nat.le_of_eq hN) (Dd [0, 1, 2, 3, 4, 5, 6] h)))
 intro A' hA' hD'
 obtain ⟨N2, tk2, hN2, hT2⟩ := H1a.NT
 have e2 : tk2 = tk + 11 := by lia
 subst e2
 refine Aa (Au (M := F) (olds := [105, N+884, N+884+1, N+884+2, N+884+3, N+884+4, N+884+5, N+884+6]) (Oh w b1 b2 N2 (tk+11) _ _ _ _ _ _ _ _ _ _ _ _ _ _ _ _ _ _ _ X) hA' (Dv hD' hD) H1a rfl rfl rfl rfl hN2 hT2 trivial ?_)
 intro s2 H2 K2 hT3 hS2
 refine ⟨rfl, ?_⟩
 have H2 := At.rot8 H2
 refine Ra (U := ⟨b1, w, b2, true⟩) hA' (Dv hD' hD) (by first | (simp; done) | (simp; lia)) (by first | (simp; done) | (simp; lia)) H2 ?_
 intro s10 u1 u2 H10 K3
 obtain ⟨N11, tk11, hN11, hT11⟩ := H10.NT
 refine Au (olds := [N+884]) ((Jh w b1 b2 N tk tp X).2 N11 tk11 .. ) hA (dl hD) H10 rfl rfl rfl rfl hN11 hT11 trivial ?_
 intro s11 H11 K11 _ _
 refine cont s11 (N+884+1) _ _ _ (.inr ⟨_, rfl⟩) (.cons _ _ (.cons _ _ .nil)) ((At.pick7 H11).perm (List.Perm.swap _ _ _)) ?_ (by lia)
 have k7 : ∀ {X : List Nat} {a b : Shared}, Keeps X a b -> (∀ y ∈ X, y ∈ [N+884, N+884+1, N+884+2, N+884+3, N+884+4, N+884+5, N+884+6]) -> Keeps ([N+884, N+884+1, N+884+2, N+884+3, N+884+4, N+884+5, N+884+6] ++ [105]) a b := fun h g => h.mono (fun y hy => List.mem_append_left _ (g y hy))
 have mz : ∀ y ∈ [N+884, N+884+1, N+884+2], y ∈ [N+884, N+884+1, N+884+2, N+884+3, N+884+4, N+884+5, N+884+6] := fun y h => (List.sublist_append_left [N+884, N+884+1, N+884+2] [N+884+3, N+884+4, N+884+5, N+884+6]).subset h
 refine Keeps.trans_new (X := [105]) (Y := [N+884, N+884+1, N+884+2, N+884+3, N+884+4, N+884+5, N+884+6]) K1 ((K2.mono (by simp)).trans ((k7 K3 mz).trans (k7 K11 (by simp)))) ?_
 exact fun y hy => Nat.le_trans (Nat.le_of_eq hN) (Dd [0, 1, 2, 3, 4, 5, 6] hy)
theorem Rk {tp tk X : Nat} {F : List (Nat × Obj)} (hA : A.handled = none) (hD : A.depth <= 330) (hT : s.toks = tk + 1573) (H : At (wf w b1 b2 false) s ((105, (Dw X)) :: F))
  (cont : ∀ s' RL vs n tb', Du tb' -> StrsAre vs ((Cz 4).map S8) -> At (wf w b1 b2 false) s' ((105, tb') :: (RL, A9 vs n) :: F) -> Keeps [105] s s' -> s.heap.objs.size <= RL -> R (.ok (.ret (.ref RL))) s') :
  codeAny (Ak (wf w b1 b2 false)) A (.call (.ref 110) ⟨[.str (S8 (As 4)) tp, .str ⟨⟨Aj⟩⟩ (tk+1568), .str ⟨#[97, 110, 121]⟩ (tk+1572)], []⟩) R s := by
 obtain ⟨N, hN⟩ := H.N
 refine Aa (C5 (L := [(105, (Dw X))]) (W := [0, 1, 2, 3, 4, 5, 6, 7].zip [_, _, _, _, _, _, _, _]) (Jl w b1 b2 N tk tp X).1 hA (dl hD) (H.left (M := F)) rfl rfl rfl hN hT rfl rfl (by decide) (by decide) trivial ?_)
 intro s1 H1 K1 hT1 hS1
 have H1a := At.next (L := [(105, (Dw X))]) (M := F) H H1 K1 (fun q hq => by
  rcases List.mem_cons.mp (show q.1 ∈ 105 :: [N+884, N+884+1, N+884+2, N+884+3, N+884+4, N+884+5, N+884+6] from List.mem_map_of_mem (f := (·.1)) hq) with h | h
  ·left; rw [h]; exact .head _
  ·exact .inr (Nat.le_trans (Nat.le_of_eq hN) (Dd [0, 1, 2, 3, 4, 5, 6] h)))
 intro A' hA' hD'
 obtain ⟨N2, tk2, hN2, hT2⟩ := H1a.NT
 have e2 : tk2 = tk + 11 := by lia
 subst e2
 refine Aa (Au (M := F) (olds := [105, N+884, N+884+1, N+884+2, N+884+3, N+884+4, N+884+5, N+884+6]) (O3 w b1 b2 N2 (tk+11) _ _ _ _ _ _ _ _ _ _ _ _ _ _ _ _ _ _ _ X) hA' (Dv hD' hD) H1a rfl rfl rfl rfl hN2 hT2 trivial ?_)
 intro s2 H2 K2 hT3 hS2
 refine ⟨rfl, ?_⟩
 have H2 := At.rot8 H2
 refine Ra (U := ⟨b1, w, b2, false⟩) hA' (Dv hD' hD) (by first | (simp; done) | (simp; lia)) (by first | (simp; done) | (simp; lia)) H2 ?_
 intro s10 u1 u2 H10 K3
 obtain ⟨N11, tk11, hN11, hT11⟩ := H10.NT
 refine Au (olds := [N+884]) ((Jl w b1 b2 N tk tp X).2 N11 tk11 .. ) hA (dl hD) H10 rfl rfl rfl rfl hN11 hT11 trivial ?_
 intro s11 H11 K11 _ _
 refine cont s11 (N+884+1) _ _ _ (.inr ⟨_, rfl⟩) (.cons _ _ (.cons _ _ .nil)) ((At.pick7 H11).perm (List.Perm.swap _ _ _)) ?_ (by lia)
 have k7 : ∀ {X : List Nat} {a b : Shared}, Keeps X a b -> (∀ y ∈ X, y ∈ [N+884, N+884+1, N+884+2, N+884+3, N+884+4, N+884+5, N+884+6]) -> Keeps ([N+884, N+884+1, N+884+2, N+884+3, N+884+4, N+884+5, N+884+6] ++ [105]) a b := fun h g => h.mono (fun y hy => List.mem_append_left _ (g y hy))
 have mz : ∀ y ∈ [N+884, N+884+1, N+884+2], y ∈ [N+884, N+884+1, N+884+2, N+884+3, N+884+4, N+884+5, N+884+6] := fun y h => (List.sublist_append_left [N+884, N+884+1, N+884+2] [N+884+3, N+884+4, N+884+5, N+884+6]).subset h
 refine Keeps.trans_new (X := [105]) (Y := [N+884, N+884+1, N+884+2, N+884+3, N+884+4, N+884+5, N+884+6]) K1 ((K2.mono (by simp)).trans ((k7 K3 mz).trans (k7 K11 (by simp)))) ?_
 exact fun y hy => Nat.le_trans (Nat.le_of_eq hN) (Dd [0, 1, 2, 3, 4, 5, 6] hy)
end
theorem R5 {w : World} {c : Code} {n hs m i nn N tk : Nat} {vs : List Value} {F : List (Nat × Obj)}
  (ev : Ev 340 w [] 0 N tk [] [] n hs c .base (.pure (.again c)) [1] (.fin (.ret (.ref (N+884+1)))) (om [A9 vs nn]) m i []) (hm : 2 <= m)
  (hA : A.handled = none) (hD : A.depth <= 330) (hN : s.heap.objs.size = N + 884) (hT : s.toks = tk + 1573) (H : At w s F)
  (cont : ∀ s', At w s' ((N+884+1, A9 vs nn) :: F) -> Keeps [] s s' -> R (.ok (.ret (.ref (N+884+1)))) s') : codeAny (Ak w) A c R s := by
 refine Aa (C5 (L := []) (W := [(1, A9 vs nn)]) ev hA (dl hD) H.nil rfl rfl rfl hN hT rfl rfl (by decide) (by simp; lia) trivial ?_)
 intro s1 H1 K1 hT1 hS1
 have H1a := At.next (L := []) (M := F) H H1 K1 (fun q hq => by
  right
  have h : q.1 = N+884+1 := congrArg Prod.fst (List.mem_singleton.mp hq)
  lia)
 exact cont s1 H1a K1
theorem Ng {w : World} {c : Code} {n hs m i nn N tk : Nat} {vs : List Value} {tb tb' : Obj} {F : List (Nat × Obj)}
  (ev : Ev 340 w [105] 1 N tk [] [tb] n hs c .base (.pure (.again c)) [0, 2] (.fin (.ret (.ref (N+884+1)))) (om [tb', A9 vs nn]) m i []) (hm : 2 <= m)
  (hA : A.handled = none) (hD : A.depth <= 330) (hN : s.heap.objs.size = N + 884) (hT : s.toks = tk + 1573) (H : At w s ((105, tb) :: F))
  (cont : ∀ s', At w s' ((105, tb') :: (N+884+1, A9 vs nn) :: F) -> Keeps [105] s s' -> R (.ok (.ret (.ref (N+884+1)))) s') : codeAny (Ak w) A c R s := by
 refine Aa (C5 (L := [(105, tb)]) (W := [(0, tb'), (2, A9 vs nn)]) ev hA (dl hD) (H.left (L := [(105, tb)]) (M := F)) rfl rfl rfl hN hT rfl rfl (by decide) (by simp; lia) trivial ?_)
 intro s1 H1 K1 hT1 hS1
 have H1a := At.next (L := [(105, tb)]) (M := F) H H1 K1 (fun q hq => by
  have h : q.1 ∈ [105, N+884+1] := List.mem_map_of_mem (f := (·.1)) hq
  simp only [List.mem_cons, List.not_mem_nil, or_false] at h
  rcases h with h | h
  ·left; rw [h]; exact .head _
  ·right; lia)
 exact cont s1 H1a K1
section
variable {U : Fl} {w : World} {b1 b2 : Bool}
theorem Aka {k : Nat} (hk : k < 8) {tp tk : Nat} {tb : Obj} {F : List (Nat × Obj)} (htb : Du tb) (hA : A.handled = none) (hD : A.depth <= 330) (hT : s.toks = tk + 1573) (H : At U.W s ((105, tb) :: F))
  (cont : ∀ s' RL vs n tb', Du tb' -> StrsAre vs ((Cz k).map S8) -> At U.W s' ((105, tb') :: (RL, A9 vs n) :: F) -> Keeps [105] s s' -> s.heap.objs.size <= RL -> R (.ok (.ret (.ref RL))) s') :
  codeAny (Ak U.W) A (.call (.ref 110) ⟨[.str (S8 (As k)) tp, .str ⟨⟨Aj⟩⟩ (tk+1568), .str ⟨#[97, 110, 121]⟩ (tk+1572)], []⟩) R s := by
 obtain ⟨N, hN⟩ := H.N
 have c5 : StrsAre [.str (S8 [97]) 0] [S8 [97]] := .cons _ _ .nil
 match k, hk with
 | 0, _ => exact R5 (Af1 U N tk tp) (by decide) hA hD hN hT H fun s' H' K' => cont s' _ _ _ tb htb (.cons _ _ (.cons _ _ (.cons _ _ (.cons _ _ (.cons _ _ .nil))))) (H'.perm (List.Perm.swap _ _ _)) (K'.mono (by intro y hy; cases hy)) (by lia)
 | 1, _ => exact R5 (Afi U N tk tp) (by decide) hA hD hN hT H fun s' H' K' => cont s' _ _ _ tb htb (.cons _ _ (.cons _ _ (.cons _ _ (.cons _ _ (.cons _ _ .nil))))) (H'.perm (List.Perm.swap _ _ _)) (K'.mono (by intro y hy; cases hy)) (by lia)
 | 2, _ => exact Ag6 hA hD hT H fun s' RL vs n hs H' K' hR => cont s' RL vs n tb htb hs (H'.perm (List.Perm.swap _ _ _)) (K'.mono (by intro y hy; cases hy)) hR
 | 3, _ =>
  obtain ⟨b1, w, b2, b3⟩ := U
  rcases htb with rfl | ⟨X, rfl⟩
  ·cases b3
   ·exact Ng (Q3 w b1 b2 N tk tp) (by decide) hA hD hN hT H fun s' H' K' => cont s' _ _ _ _ (.inr ⟨_, rfl⟩) (.cons _ _ (.cons _ _ (.cons _ _ (.cons _ _ (.cons _ _ .nil))))) H' K' (by lia)
   ·exact Ng (Ph w b1 b2 N tk tp) (by decide) hA hD hN hT H fun s' H' K' => cont s' _ _ _ _ (.inr ⟨_, rfl⟩) (.cons _ _ (.cons _ _ (.cons _ _ (.cons _ _ (.cons _ _ .nil))))) H' K' (by lia)
  ·cases b3
   ·exact Ng (Pp w b1 b2 N tk tp X) (by decide) hA hD hN hT H fun s' H' K' => cont s' _ _ _ _ (.inr ⟨_, rfl⟩) (.cons _ _ (.cons _ _ (.cons _ _ (.cons _ _ (.cons _ _ .nil))))) H' K' (by lia)
   ·exact Ng (Pv w b1 b2 N tk tp X) (by decide) hA hD hN hT H fun s' H' K' => cont s' _ _ _ _ (.inr ⟨_, rfl⟩) (.cons _ _ (.cons _ _ (.cons _ _ (.cons _ _ (.cons _ _ .nil))))) H' K' (by lia)
 | 4, _ =>
  obtain ⟨b1, w, b2, b3⟩ := U
  rcases htb with rfl | ⟨X, rfl⟩
  ·cases b3
   ·exact S5 hA hD hT H cont
   ·exact Rw hA hD hT H cont
  ·cases b3
   ·exact Rk hA hD hT H cont
   ·exact Ro hA hD hT H cont
 | 5, _ => exact Akx hA hD hT H fun s' RL vs n hs H' K' hR => cont s' RL vs n tb htb hs (H'.perm (List.Perm.swap _ _ _)) (K'.mono (by intro y hy; cases hy)) hR
 | 6, _ => exact R5 (Aff U N tk tp) (by decide) hA hD hN hT H fun s' H' K' => cont s' _ _ _ tb htb (.cons _ _ .nil) (H'.perm (List.Perm.swap _ _ _)) (K'.mono (by intro y hy; cases hy)) (by lia)
 | 7, _ => exact R5 (Ac8 U N tk tp) (by decide) hA hD hN hT H fun s' H' K' => cont s' _ _ _ tb htb (.cons _ _ (.cons _ _ .nil)) (H'.perm (List.Perm.swap _ _ _)) (K'.mono (by intro y hy; cases hy)) (by lia)
 | k + 8, h => lia
end
section
variable {prog : Program} {w : World} {A : Around} {s : Shared} {Q : Value -> Shared -> Prop} {E : Value -> Shared -> Prop}
theorem Kl {a : Value}
  (h : codeAny (model prog w) A.in1 (.call (.builtin "list.__init__") ⟨[.ref s.heap.objs.size, a], []⟩) (wants (fun r s' => r = .none /\ Q (.ref s.heap.objs.size) s') E) { s with heap := s.heap.push { cls := .type "list", data := .seq #[] } }) :
  codeAny (model prog w) A (.call (.type "list") ⟨[a], []⟩) (wants Q E) s := by
 have ft := F.called_list
 have hct := F.typeCall_list_1 a
 obtain ⟨c, tl, hmro⟩ := ft.mro
 have hmade := ft.made
 have hsub := ft.sub
 refine codeAny_of_tree ?_
 show wpAny _ _ (callAny (.type "list") _) _ _ _
 refine wpAny_pure ⟨Code.quiet_builtin _ (by decide +kernel), codeAny_builtin F.entry_type_call ?_⟩
 rw [Around.under_plain (weight_type_call_type "list" [a] []) rfl]
 have h1 := ft.notType
 have h2 := ft.canCreate
 repeat (any_goals (first | assumption | wp_step))
 refine codeAny_mono (code_list_new (Q₁ := fun obj s₁ => obj = .ref s.heap.objs.size /\ s₁ = { s with heap := s.heap.push { cls := .type "list", data := .seq #[] } }) (E := E) a ⟨rfl, rfl⟩) fun r s₁ hr => ?_
 cases r with
 | error e => exact hr
 | ok fl =>
  cases fl with
  | ret obj =>
   obtain ⟨rfl, rfl⟩ := hr
   have hT : ({ s with heap := s.heap.push { cls := .type "list", data := .seq #[] } } : Shared).TypeIs (.ref s.heap.objs.size) "list" := ⟨_, Heap.get?_push_size _ rfl, rfl⟩
   have hli := ft.init.lookup
   have hbi := ft.init.bind (.ref s.heap.objs.size)
   repeat (any_goals (first | assumption | wp_step))
   refine codeAny_mono h fun r₂ s₂ hr₂ => ?_
   cases r₂ with
   | error e => exact hr₂
   | ok fl₂ =>
    cases fl₂ with
    | ret r =>
     obtain ⟨rfl, hq⟩ := hr₂
     repeat (any_goals (first | assumption | wp_step))
    | _ => exact hr₂.elim
  | _ => exact hr.elim
end
noncomputable def rgO (a b : Int) (t u v : Nat) : Obj := ⟨.type "range", none, .fields #[.int a t, .int b u, .int 1 v], #[]⟩
theorem Q5 (p L : Nat) (h : p <= L) : Builtin.Range.rangeSize (p : Int) (L : Int) 1 = ((L - p : Nat) : Int) := by
 unfold Builtin.Range.rangeSize
 simp
 lia
theorem Pl {a : Int} {n : Nat} {acc : Array Value} (h : ItemsOf (fun i v => ∃ t, v = .int (a + i * 1) t) acc n) : IntsV acc.toList ((List.range n).map fun (i : Nat) => a + i) := by
 obtain ⟨h1, h2⟩ := h
 have key : ∀ (l : List Value) (k : Nat), (∀ (j : Nat) v, l[j]? = some v -> ∃ t, v = .int (a + ((k + j : Nat) : Int)) t) -> IntsV l ((List.range' k l.length).map fun (i : Nat) => a + i) := by
  intro l
  induction l with
  | nil => intro k _; exact .nil
  | cons v l ih =>
   intro k hk
   obtain ⟨t, rfl⟩ := hk 0 v rfl
   have := ih (k + 1) (fun j v hj => by
    obtain ⟨t, e⟩ := hk (j + 1) v (by simpa using hj)
    exact ⟨t, by rw [e]; congr 2; lia⟩)
   simp only [List.length_cons, List.range'_succ, List.map_cons]
   exact .cons _ _ this
 have := key acc.toList 0 (fun j v hj => by
  obtain ⟨t, e⟩ := h2 j v (by simpa using hj)
  exact ⟨t, by rw [e]; simp⟩)
 rw [List.range_eq_range']
 have e : acc.toList.length = n := by simpa using h1
 rw [e] at this
 exact this
section
variable {w : World}
theorem W1 {r : Nat} {p L : Nat} {t u v : Nat} {Q : Value -> Shared -> Prop} {F : List (Nat × Obj)} (hA : A.handled = none) (hp : p <= L) (hL : L <= 1000) (H : At w s ((r, rgO p L t u v) :: F))
  (cont : ∀ s' V vs m, IntsV vs ((List.range (L - p)).map fun (i : Nat) => ((p + i : Nat) : Int)) -> At w s' ((V, A9 vs m) :: F) -> Keeps [] s s' -> s.heap.objs.size <= V -> Q (.ref V) s') :
  codeAny (Ak w) A (.call (.type "list") ⟨[.ref r], []⟩) (wants Q G5) s := by
 refine Kl ?_
 refine codeAny_with_toks (n := s.toks) (Nat.le_refl _) ?_
 have hr : IsRange s.heap r p L 1 t u v := H.own _ (.head _)
 have hS : (s.heap.push { cls := .type "list", data := .seq #[] }).get? s.heap.objs.size = some { cls := .type "list", data := .seq #[] } := Heap.get?_push_size _ rfl
 have hn := Q5 p L hp
 have hsmall : Builtin.Range.small (p : Int) (L : Int) 1 = true := by
  unfold Builtin.Range.small
  rw [hn]
  have f : ∀ x : Int, 0 <= x -> x <= 2000 -> Builtin.Range.rangeFitsLong x = true := by
   intro x h0 h1
   unfold Builtin.Range.rangeFitsLong
   simp
   lia
  have e1 := f p (by lia) (by lia)
  have e2 := f L (by lia) (by lia)
  have e3 := f 1 (by lia) (by lia)
  have e4 := f ((L - p : Nat) : Int) (by lia) (by lia)
  have e5 := f (L + (1 - 1)) (by lia) (by lia)
  simp only [e1, e2, e3, e4, e5, Bool.and_true, Bool.true_and]
  simp
 refine codeAny_mono (codeAny_call_builtin _root_.PySem.F.called_list.init.plain _root_.PySem.F.entry_list_init (_root_.PySem.F.called_list.init.check _ _ _ _ _ _ _ _ ⟨_, hS, rfl⟩ (_root_.PySem.F.args_list_init_2 _ _) ?_)) (fun r s' h => h)
 refine wpAny_list_init_range (s := { s with heap := s.heap.push { cls := .type "list", data := .seq #[] } }) (A := A.in1) (R := fun r s' => s.toks <= s'.toks -> wants (fun r s' => r = Value.none /\ Q (Value.ref s.heap.objs.size) s') G5 r s') hA (Heap.get?_push_of_some _ hr) hsmall hn (by lia) _ hS fun h' tk acc c hk hS' hacc => ?_
 intro htk
 refine ⟨rfl, ?_⟩
 have hkeep : ∀ b o, s.heap.get? b = some o -> h'.get? b = some o := fun b o e => hk b o (Nat.ne_of_lt (Heap.lt_size e)) (Heap.get?_push_of_some _ e)
 have hsz : s.heap.objs.size < h'.objs.size := Heap.lt_size hS'
 have hint := Pl hacc
 have e1 : ((List.range (L - p)).map fun (i : Nat) => (p : Int) + i) = ((List.range (L - p)).map fun (i : Nat) => ((p + i : Nat) : Int)) := by
  apply List.map_congr_left
  intro i _
  push_cast
  rfl
 rw [e1] at hint
 have e2 : (⟨.type "list", none, .seq acc c, #[]⟩ : Obj) = A9 acc.toList c := rfl
 have hG := H.gens
 have nd : (r :: F.map (·.1)).Nodup := H.nd
 refine cont { s with heap := h', toks := tk } s.heap.objs.size acc.toList c hint ⟨hG, fun a o e => ⟨hkeep _ _ (H.top a o e).1, (H.top a o e).2⟩, ?_, ?_, ?_, ?_, ?_⟩ ⟨fun b o e _ => hkeep b o e, Nat.le_of_lt hsz, rfl, rfl⟩ (Nat.le_refl _)
 ·show 884 <= h'.objs.size
  have := H.size
  lia
 ·show 1573 <= tk
  have := H.toks
  exact Nat.le_trans this htk
 ·intro q hq
  rcases List.mem_cons.mp hq with rfl | hq
  ·rw [<- e2]; exact hS'
  ·exact hkeep _ _ (H.own q (.tail _ hq))
 ·show (s.heap.objs.size :: F.map (·.1)).Nodup
  refine List.nodup_cons.mpr ⟨fun hm => ?_, (List.nodup_cons.mp nd).2⟩
  obtain ⟨q, hq, e⟩ := List.mem_map.mp hm
  exact absurd e (Nat.ne_of_lt (Heap.lt_size (H.own q (.tail _ hq))))
 ·intro q hq
  rcases List.mem_cons.mp hq with rfl | hq
  ·left; exact H.size
  ·exact H.hi q (.tail _ hq)
end
section
variable {w : World} {A : Around} {s : Shared} {c : Code} {E : Value -> Shared -> Prop}
theorem Py {ts : List Expr} {v : Expr} {p2 : Pos} {env : Env} {Q : Flow -> Shared -> Prop} (hsw : swapsWithSole ts v p2.line env = pure false)
  (h : wpOwn (Ak w) A c (PySem.eval v env) (fun cv s3 => wpOwn (Ak w) A c (PySem.W.R.bindR (F5 ts v env) fun sw => Gp env cv sw ((D7 ts env).map (·.2))) Q E s3) E s) :
  wpOwn (Ak w) A c (PySem.exec (.Assign ts v p2) env) Q E s := by
 show wpOwn (Ak w) A c (standAt p2 >>= fun _ => swapsWithSole ts v p2.line env >>= fun b => if b = true then _ else
  (PySem.eval v env >>= fun v' => swappedStores ts v env >>= fun sw => assignStores env v' sw ((assignEach ts env).map (·.2)))) Q E s
 refine wpOwn_bind (Dx (wpOwn_bind ?_))
 rw [hsw]
 refine An ?_
 rw [if_neg Bool.false_ne_true]
 refine wpOwn_bind (wpOwn_mono h (fun cv s3 h3 => ?_) fun _ _ h => h)
 rw [<- L0, <- M8, <- Hb, <- PySem.W.R.bindR_eq] at h3
 exact h3
theorem Rr {t b o : Expr} {p : Pos} {env : Env} {Q : Value -> Shared -> Prop}
  (h : wpOwn (Ak w) A c (PySem.isTrue t env (PySem.eval t env)) (fun r s1 => match r with
   | true => wpOwn (Ak w) A c (PySem.eval b env) Q E s1
   | false => wpOwn (Ak w) A c (PySem.eval o env) Q E s1) E s) :
  wpOwn (Ak w) A c (PySem.eval (.IfExp t b o p) env) Q E s := by
 show wpOwn (Ak w) A c (PySem.isTrue t env (PySem.eval t env) >>= fun r => if r = true then PySem.eval b env else PySem.eval o env) Q E s
 refine wpOwn_bind (wpOwn_mono h (fun r s1 h1 => ?_) fun _ _ h => h)
 cases r with
 | false => rw [if_neg Bool.false_ne_true]; exact h1
 | true => rw [if_pos rfl]; exact h1
theorem J6 {l r : Expr} {p1 : Pos} {env : Env} {e : Sem Value} {Q : Bool -> Shared -> Prop} (hm : behindInMarks .NotEq r = false)
  (h : wpOwn (Ak w) A c (PySem.eval l env) (fun a s1 => wpOwn (Ak w) A c (PySem.eval r env) (fun b s2 => wpOwn (Ak w) A c (compareOp .NotEq a b) (fun cv s3 => ∃ x, cv = .bool x /\ Q x s3) E s2) E s1) E s) :
  wpOwn (Ak w) A c (PySem.isTrue (.Compare l [.NotEq] [r] p1) env e) Q E s := by
 show wpOwn (Ak w) A c (PySem.eval l env >>= fun a => testChain p1 a [.NotEq] [match behindInMarks .NotEq r with | true => _ | false => PySem.eval r env]) _ E s
 rw [hm]
 refine wpOwn_bind (wpOwn_mono h (fun a s1 h1 => ?_) fun _ _ h => h)
 show wpOwn (Ak w) A c (holding [a] (PySem.eval r env) >>= fun rv => standAt p1 >>= fun _ => operate [a, rv] (compareOp .NotEq a rv) >>= fun cv => holding [cv] (truthy cv)) _ E s1
 refine wpOwn_bind (Ce (wpOwn_mono h1 (fun b s2 h2 => ?_) fun _ _ h => h))
 refine wpOwn_bind (Dx (wpOwn_bind (El (wpOwn_mono h2 (fun cv s3 h3 => ?_) fun _ _ h => h))))
 obtain ⟨x, rfl, h3⟩ := h3
 refine Ce ?_
 exact An h3
end
noncomputable def Vw (part : List Nat) (c : Nat) : Option Bool :=
 if part = [97, 110, 121] then some true
 else if part = [91, 97, 98, 93] then some (Cj ⟨#[91, 97, 98, 93]⟩ ⟨#[c]⟩)
 else if part = [91, 94, 97, 93] then some (!(Cj ⟨#[91, 94, 97, 93]⟩ ⟨#[c]⟩))
 else if part = [92, 46] then some (Bo ⟨#[46]⟩ ⟨#[c]⟩)
 else if part = [111] then some (Bo ⟨#[111]⟩ ⟨#[c]⟩)
 else if part = [114] then (if Bo ⟨#[114]⟩ ⟨#[c]⟩ then some true else none)
 else if part = [103] then (if Bo ⟨#[103]⟩ ⟨#[c]⟩ then some true else none)
 else if part = [119] then some (Bo ⟨#[119]⟩ ⟨#[c]⟩)
 else if part = [97] then some (Bo ⟨#[97]⟩ ⟨#[c]⟩)
 else if part = [120] then some (Bo ⟨#[120]⟩ ⟨#[c]⟩)
 else none
noncomputable def Rb (host part : List Nat) (i : Nat) : Option Bool := match host[i]? with
 | some c => Vw part c
 | none => some false
noncomputable def plO (P : Params) (td ik i : Nat) : Obj := ⟨.type "dict", none, .dict #[Dz P Vy td (.int (i : Int) ik)] 1, #[]⟩
theorem Hm (l : List Nat) : (S8 l).length = l.length := by
 show (Array.mk l).size = l.length
 simp
section
variable {U : Fl}
theorem X7 {part host : List Nat} {i td ik th pk L CH CP D it acc : Nat} {r : Bool} (hr : Rb host part i = some r) (hl : host.length <= 100) (hi : i <= 100) {F : List (Nat × Obj)} {Q : Bool -> Shared -> Prop} {E : Value -> Shared -> Prop}
  (hA : A.handled = none) (hD : A.depth <= 340)
  (H : At U.W s ([(D, plO U.P td ik i), (CP, A7 (some (.str (S8 part) pk))), (CH, A7 (some (.str (S8 host) th)))] ++ F))
  (cont : ∀ s', At U.W s' ([(D, plO U.P td ik i), (CP, A7 (some (.str (S8 part) pk))), (CH, A7 (some (.str (S8 host) th)))] ++ F) -> Keeps [D, CP, CH] s s' -> Q r s') :
  wpOwn (Ak U.W) A (Be U.P L CH CP D it acc) (PySem.isTrue (J1 (Bv U.P)) (C1 U.P L CH CP D) (PySem.eval (J1 (Bv U.P)) (C1 U.P L CH CP D))) Q E s := by
 obtain ⟨N, tk, hN, hT⟩ := H.NT
 refine B8 (Bs ?_)
 have go : ∀ {n hs m' i' : Nat} {cs : List Gv} {obs : List Prop}, Ev 340 U.W [D, CP, CH] 3 N tk cs [plO U.P td ik i, A7 (some (.str (S8 part) pk)), A7 (some (.str (S8 host) th))] n hs (Be U.P L CH CP D it acc) .base (Ei (J1 (Bv U.P)) (C1 U.P L CH CP D)) [0, 1, 2] (.fin (.ret (.bool r))) (om [plO U.P td ik i, A7 (some (.str (S8 part) pk)), A7 (some (.str (S8 host) th))]) m' i' obs -> Iv obs ->
   MK U.W A (RB Q) (Be U.P L CH CP D it acc) .base (Ei (J1 (Bv U.P)) (C1 U.P L CH CP D)) s := by
  intro n hs m' i' cs obs ev hobs
  refine Au (olds := [D, CP, CH]) ev hA hD H rfl rfl rfl rfl hN hT hobs ?_
  intro s1 H1 K1 _ _
  exact cont s1 H1 K1
 have hlen : ((S8 host).length : Int) < 2 ^ 63 := by rw [Hm]; lia
 have g0 : Ac pw U.W (.builtin "len" ⟨[.str (S8 host) th], []⟩) (tk+1573) (N+884) [] [] [] (.int ((S8 host).length : Int) (tk+1574)) 2 := Il hlen
 by_cases hc : i < host.length
 ·have hget : host[i]? = some host[i] := List.getElem?_eq_getElem hc
  generalize host[i] = ch at hget
  have g1 : Ac pw U.W (.builtin "int.__lt__" ⟨[.int (i : Int) ik, .int ((S8 host).length : Int) (tk+1574)], []⟩) (tk+1575) (N+884) [] [] [] (.bool true) 0 := Qu (by rw [Hm]; simpa using hc)
  have g2 : Ac pw U.W (.builtin "str.__getitem__" ⟨[.str (S8 host) th, .int (i : Int) ik], []⟩) (tk+1575) (N+884) [] [] [] (.str ⟨#[ch]⟩ (tk+1575)) 1 := P8 (by simp; lia) (by
   have e : seqIndex? (i : Int) (S8 host).length = some i := by
    rw [Hm]
    unfold seqIndex?
    simp
    lia
   rw [e]
   show (Array.mk host)[i]? = some ch
   simpa using hget)
  replace hr : Vw part ch = some r := by
   unfold Rb at hr
   rw [hget] at hr
   exact hr
  unfold Vw at hr
  have ge : ∀ (x : Str) (i : Int) (c : Nat) (t u tok sz : Nat), (decide (i < -(2 ^ 63 : Int)) || decide (i >= 2 ^ 63)) = false -> (seqIndex? i x.length).bind (x.cps[·]?) = some c -> Ac pw U.W (.builtin "str.__getitem__" ⟨[.str x t, .int i u], []⟩) tok sz [] [] [] (.str ⟨#[c]⟩ tok) 1 := fun x i c t u tok sz h1 h2 => P8 h1 h2
  split at hr
  ·rename_i e; subst e; cases hr
   exact go (G4 U N tk L CH CP D it acc td ik th pk i (S8 host) ch default) ⟨g2, g1, g0, trivial⟩
  split at hr
  ·rename_i e; subst e; simp only [Option.some.injEq] at hr
   cases r
   ·exact go (Fd U N tk L CH CP D it acc td ik th pk i (S8 host) ch default) ⟨ge _ _ _ _ _ _ _ (by decide) (by decide), hr, ge _ _ _ _ _ _ _ (by decide) (by decide), g2, g1, g0, trivial⟩
   ·exact go (Fj U N tk L CH CP D it acc td ik th pk i (S8 host) ch default) ⟨ge _ _ _ _ _ _ _ (by decide) (by decide), hr, ge _ _ _ _ _ _ _ (by decide) (by decide), g2, g1, g0, trivial⟩
  split at hr
  ·rename_i e; subst e; simp only [Option.some.injEq] at hr
   cases r
   ·exact go (F4 U N tk L CH CP D it acc td ik th pk i (S8 host) ch default) ⟨ge _ _ _ _ _ _ _ (by decide) (by decide), by simpa using hr, ge _ _ _ _ _ _ _ (by decide) (by decide), g2, g1, g0, trivial⟩
   ·exact go (Fu U N tk L CH CP D it acc td ik th pk i (S8 host) ch default) ⟨ge _ _ _ _ _ _ _ (by decide) (by decide), by simpa using hr, ge _ _ _ _ _ _ _ (by decide) (by decide), g2, g1, g0, trivial⟩
  split at hr
  ·rename_i e; subst e; simp only [Option.some.injEq] at hr
   cases r
   ·exact go (Ib U N tk L CH CP D it acc td ik th pk i (S8 host) ch default) ⟨hr, ge _ _ _ _ _ _ _ (by decide) (by decide), ge _ _ _ _ _ _ _ (by decide) (by decide), g2, g1, g0, trivial⟩
   ·exact go (J4 U N tk L CH CP D it acc td ik th pk i (S8 host) ch default) ⟨hr, ge _ _ _ _ _ _ _ (by decide) (by decide), ge _ _ _ _ _ _ _ (by decide) (by decide), g2, g1, g0, trivial⟩
  split at hr
  ·rename_i e; subst e; simp only [Option.some.injEq] at hr
   cases r
   ·exact go (Jo U N tk L CH CP D it acc td ik th pk i (S8 host) ch default) ⟨hr, ge _ _ _ _ _ _ _ (by decide) (by decide), ge _ _ _ _ _ _ _ (by decide) (by decide), g2, g1, g0, trivial⟩
   ·exact go (Ku U N tk L CH CP D it acc td ik th pk i (S8 host) ch default) ⟨hr, ge _ _ _ _ _ _ _ (by decide) (by decide), ge _ _ _ _ _ _ _ (by decide) (by decide), g2, g1, g0, trivial⟩
  split at hr
  ·rename_i e; subst e
   split at hr
   ·rename_i h2; cases hr
    exact go (Kh U N tk L CH CP D it acc td ik th pk i (S8 host) ch default) ⟨h2, ge _ _ _ _ _ _ _ (by decide) (by decide), ge _ _ _ _ _ _ _ (by decide) (by decide), g2, g1, g0, trivial⟩
   ·cases hr
  split at hr
  ·rename_i e; subst e
   split at hr
   ·rename_i h2; cases hr
    exact go (Kg U N tk L CH CP D it acc td ik th pk i (S8 host) ch default) ⟨h2, ge _ _ _ _ _ _ _ (by decide) (by decide), ge _ _ _ _ _ _ _ (by decide) (by decide), g2, g1, g0, trivial⟩
   ·cases hr
  split at hr
  ·rename_i e; subst e; simp only [Option.some.injEq] at hr
   cases r
   ·exact go (Js U N tk L CH CP D it acc td ik th pk i (S8 host) ch default) ⟨hr, ge _ _ _ _ _ _ _ (by decide) (by decide), ge _ _ _ _ _ _ _ (by decide) (by decide), g2, g1, g0, trivial⟩
   ·exact go (Ki U N tk L CH CP D it acc td ik th pk i (S8 host) ch default) ⟨hr, ge _ _ _ _ _ _ _ (by decide) (by decide), ge _ _ _ _ _ _ _ (by decide) (by decide), g2, g1, g0, trivial⟩
  split at hr
  ·rename_i e; subst e; simp only [Option.some.injEq] at hr
   cases r
   ·exact go (Kx U N tk L CH CP D it acc td ik th pk i (S8 host) ch default) ⟨hr, ge _ _ _ _ _ _ _ (by decide) (by decide), ge _ _ _ _ _ _ _ (by decide) (by decide), g2, g1, g0, trivial⟩
   ·exact go (Lp U N tk L CH CP D it acc td ik th pk i (S8 host) ch default) ⟨hr, ge _ _ _ _ _ _ _ (by decide) (by decide), ge _ _ _ _ _ _ _ (by decide) (by decide), g2, g1, g0, trivial⟩
  split at hr
  ·rename_i e; subst e; simp only [Option.some.injEq] at hr
   cases r
   ·exact go (Jp U N tk L CH CP D it acc td ik th pk i (S8 host) ch default) ⟨hr, ge _ _ _ _ _ _ _ (by decide) (by decide), ge _ _ _ _ _ _ _ (by decide) (by decide), g2, g1, g0, trivial⟩
   ·exact go (L3 U N tk L CH CP D it acc td ik th pk i (S8 host) ch default) ⟨hr, ge _ _ _ _ _ _ _ (by decide) (by decide), ge _ _ _ _ _ _ _ (by decide) (by decide), g2, g1, g0, trivial⟩
  ·cases hr
 ·have hget : host[i]? = none := List.getElem?_eq_none (by lia)
  have g1 : Ac pw U.W (.builtin "int.__lt__" ⟨[.int (i : Int) ik, .int ((S8 host).length : Int) (tk+1574)], []⟩) (tk+1575) (N+884) [] [] [] (.bool false) 0 := Qu (by rw [Hm]; simpa using hc)
  replace hr : some false = some r := by
   unfold Rb at hr
   rw [hget] at hr
   exact hr
  cases hr
  exact go (V2 U N tk L CH CP D it acc td ik th pk i (S8 host) default (A7 (some (.str (S8 part) pk)))) ⟨g1, g0, trivial⟩
end
section
variable {w : World} {s : Shared} {F : List (Nat × Obj)} {p0 p1 p2 p3 p4 p5 p6 a : Nat × Obj}
theorem At.up1 (H : At w s (p0 :: a :: F)) : At w s (a :: p0 :: F) := H.perm (List.perm_middle (l₁ := [p0])).symm
theorem At.up2 (H : At w s (p0 :: p1 :: a :: F)) : At w s (a :: p0 :: p1 :: F) := H.perm (List.perm_middle (l₁ := [p0, p1])).symm
theorem At.up3 (H : At w s (p0 :: p1 :: p2 :: a :: F)) : At w s (a :: p0 :: p1 :: p2 :: F) := H.perm (List.perm_middle (l₁ := [p0, p1, p2])).symm
theorem At.up4 (H : At w s (p0 :: p1 :: p2 :: p3 :: a :: F)) : At w s (a :: p0 :: p1 :: p2 :: p3 :: F) := H.perm (List.perm_middle (l₁ := [p0, p1, p2, p3])).symm
theorem At.up5 (H : At w s (p0 :: p1 :: p2 :: p3 :: p4 :: a :: F)) : At w s (a :: p0 :: p1 :: p2 :: p3 :: p4 :: F) := H.perm (List.perm_middle (l₁ := [p0, p1, p2, p3, p4])).symm
theorem At.up6 (H : At w s (p0 :: p1 :: p2 :: p3 :: p4 :: p5 :: a :: F)) : At w s (a :: p0 :: p1 :: p2 :: p3 :: p4 :: p5 :: F) := H.perm (List.perm_middle (l₁ := [p0, p1, p2, p3, p4, p5])).symm
theorem At.up7 (H : At w s (p0 :: p1 :: p2 :: p3 :: p4 :: p5 :: p6 :: a :: F)) : At w s (a :: p0 :: p1 :: p2 :: p3 :: p4 :: p5 :: p6 :: F) := H.perm (List.perm_middle (l₁ := [p0, p1, p2, p3, p4, p5, p6])).symm
theorem At.tl (H : At w s (p0 :: F)) : At w s F := H.drop (L := [p0])
theorem C0 {a tok sz : Nat} {xs : List Value} {ys : List Int} {n : Nat} {z : Int} {u : Nat} (h : IntsV xs ys) :
  Ac pw w (.call (.builtin "list.__contains__") ⟨[.ref a, .int z u], []⟩) tok sz [(a, A9 xs n)] [] [] (.bool (ys.any (· == z))) 0 := by
 intro A s R hA hD hg ht hn hrd hR
 let e : Value -> Bool := fun v => match v with | .int y _ => y == z | _ => false
 have he : ∀ y, y ∈ Array.mk xs -> MeetsSeq.EqGives y (.int z u) (e y) := by
  intro y hy
  replace hy : y ∈ xs := by simpa using hy
  clear hR hrd
  induction h with
  | nil => cases hy
  | cons x t _ ih =>
   rcases List.mem_cons.mp hy with rfl | hy
   ·exact MeetsSeq.EqGives.int _ _ _ _
   ·exact ih hy
 have ha : (Array.mk xs).any e = ys.any (· == z) := by
  rw [List.any_toArray]
  clear he hR hrd
  induction h with
  | nil => rfl
  | cons x t _ ih => simp only [List.any_cons, ih, e]
 subst ht
 refine codeAny_call_builtin _root_.PySem.F.slot_list_contains.plain _root_.PySem.F.entry_list_contains (_root_.PySem.F.slot_list_contains.check _ _ _ _ _ _ _ _ ⟨_, hrd.1, rfl⟩ (_root_.PySem.F.args_list_contains_2 _ _) (MeetsSeq.list_contains a (Array.mk xs) n (.int z u) e he _ w A R s ⟨hrd.1, ?_⟩))
 rw [ha]
 exact hR
end
section
variable {w : World} {A : Around} {s : Shared}
theorem J8 {c : Code} {elt target Bw cnd : Expr} {scope : Scope} {pos : Pos} {it acc : Value} {env : Env} (hc : c = .compLoop (.ListComp elt [⟨target, Bw, [cnd], 0⟩] scope pos) 0 it acc env) (ht : ∀ v, letOwnedTupleGo target it v = pure ())
  (h : wpOwn (Ak w) A c (pyNext it) (fun o s' => match o with
   | none => R (.ok .next) s'
   | some v => wpOwn (Ak w) A c (assign target env v) (fun _ s1 =>
     wpOwn (Ak w) A c (PySem.isTrue cnd env (PySem.eval cnd env)) (fun ok s2 => match ok with
      | true => wpOwn (Ak w) A c (PySem.eval elt env) (fun x s3 =>
        wpOwn (Ak w) A c (call (.builtin "list.append") [acc, x]) (fun _ s4 => codeAny (Ak w) A c R s4) G5 s3) G5 s2
      | false => codeAny (Ak w) A c R s2) G5 s1) G5 s') G5 s) :
  codeAny (Ak w) A c R s := by
 subst hc
 exact Pr ht h
theorem Hi {c : Code} {acc n : Nat} {xs : List Value} {v : Value} {L : List (Nat × Obj)} {Q : Value -> Shared -> Prop} {E : Value -> Shared -> Prop} (hA : A.handled = none) (hD : A.depth + c.weight <= 900) (hx : xs.length <= 4000) (H : At w s ((acc, A9 xs n) :: L))
  (cont : ∀ s', At w s' ((acc, A9 (xs ++ [v]) (n + 1)) :: L) -> Keeps [acc] s s' -> Q .none s') :
  wpOwn (Ak w) A c (call (.builtin "list.append") [.ref acc, v]) Q E s := by
 obtain ⟨H2, K2⟩ := H.upd (f := fun _ => A9 (xs ++ [v]) (n + 1)) rfl
 exact Zv (c' := c) hA hD (Fv hx) H.gens ⟨H.own _ (.head _), trivial⟩ (cont _ H2 K2)
end
noncomputable def G0 (l : List Nat) : List Int := l.map fun (i : Nat) => (i : Int)
theorem IntsV.length {vs : List Value} {xs : List Int} (h : IntsV vs xs) : vs.length = xs.length := by
 induction h with
 | nil => rfl
 | cons _ _ _ ih => simp [ih]
noncomputable def eD : Obj := ⟨.type "dict", none, .dict #[] 0, #[]⟩
noncomputable def DSt (P : Params) (o : Obj) : Prop := o = eD \/ ∃ td ik i, o = plO P td ik i
noncomputable def Ov (host part : List Nat) : List Nat -> Option (List Nat)
 | [] => some []
 | i :: l => match Rb host part i with
  | none => none
  | some b => match Ov host part l with
   | none => none
   | some r => some (if b then (i + 1) :: r else r)
section
variable {U : Fl}
theorem Ab4 : Bv U.P = .ListComp (O8 (Bv U.P)) [⟨Nu (Bv U.P), X1 (Bv U.P), [J1 (Bv U.P)], 0⟩] (Rs (Bv U.P)) (Z3 (Bv U.P)) := by kernel_rfl
theorem Hp {L CH CP D it acc : Nat} : Be U.P L CH CP D it acc = .compLoop (.ListComp (O8 (Bv U.P)) [⟨Nu (Bv U.P), X1 (Bv U.P), [J1 (Bv U.P)], 0⟩] (Rs (Bv U.P)) (Z3 (Bv U.P))) 0 (.ref it) (.ref acc) (C1 U.P L CH CP D) := by
 unfold Be
 rw [<- Ab4]
theorem Abj (v1 v2 : Value) : Ci (Nu (Bv U.P)) v1 v2 = pure () := by kernel_rfl
theorem V7 {part host : List Nat} {L CH CP D it acc PL m pk th : Nat} {all : List Value} {F : List (Nat × Obj)} (hl : host.length <= 100) (hall : all.length <= 1000) : ∀ (rem : List Nat) (vs : List Value) (i : Nat) (dd : Option Addr) (sl : Array (Option Value)) (dO : Obj) (accs : List Value) (n : Nat) (res : List Nat) (A : Around) (s : Shared) (R : Result -> Shared -> Prop),
  all.drop i = vs -> i <= all.length -> IntsV vs (G0 rem) -> (∀ p ∈ rem, p <= 100) -> Ov host part rem = some res -> DSt U.P dO -> accs.length <= i -> A.handled = none -> A.depth <= 340 ->
  At U.W s ((it, Bh PL i dd sl) :: (PL, A9 all m) :: (D, dO) :: (CP, A7 (some (.str (S8 part) pk))) :: (CH, A7 (some (.str (S8 host) th))) :: (acc, A9 accs n) :: F) ->
  (∀ s' o' dO' vs' n', DSt U.P dO' -> IntsV vs' (G0 res) -> At U.W s' ((it, o') :: (PL, A9 all m) :: (D, dO') :: (CP, A7 (some (.str (S8 part) pk))) :: (CH, A7 (some (.str (S8 host) th))) :: (acc, A9 (accs ++ vs') n') :: F) -> Keeps [it, D, CP, CH, acc] s s' -> R (.ok .next) s') ->
  codeAny (Ak U.W) A (Be U.P L CH CP D it acc) R s
 | [], vs, i, dd, sl, dO, accs, n, res, A, s, R, hv, hi, hI, hle, hres, Lu, hacc, hA, hD, H, cont => by
  cases hres
  cases hI
  have hil : all.length = i := by
   have h := congrArg List.length hv
   simp at h
   lia
  refine J8 Hp (fun v => by rw [PySem.W.Fast.te1578499551869305889]; exact Abj _ _) ?_
  refine Ir hA hil H ?_
  intro s1 o1 H1 K1 _
  exact cont s1 o1 dO [] n Lu .nil (by rw [List.append_nil]; exact H1) (K1.mono (by intro y hy; simp at hy; simp [hy]))
 | p :: rem, vs, i, dd, sl, dO, accs, n, res, A, s, R, hv, hi, hI, hle, hres, Lu, hacc, hA, hD, H, cont => by
  obtain ⟨t, vs', rfl, hI'⟩ : ∃ t vs', vs = .int (p : Int) t :: vs' /\ IntsV vs' (G0 rem) := by
   cases hI with
   | cons x t h => exact ⟨t, _, rfl, h⟩
  have hlt : i < all.length := by
   have h := congrArg List.length hv
   simp at h
   lia
  have hx : all[i]? = some (.int (p : Int) t) := by
   have h := List.drop_eq_getElem_cons hlt
   rw [hv] at h
   rw [List.getElem?_eq_getElem hlt]
   exact congrArg some (List.cons.inj h).1.symm
  have hv' : all.drop (i + 1) = vs' := by
   have h := List.drop_eq_getElem_cons hlt
   rw [hv] at h
   exact (List.cons.inj h).2.symm
  have hwt : (Be U.P L CH CP D it acc).weight <= 1 := Fc (Be U.P L CH CP D it acc)
  simp only [Ov] at hres
  split at hres
  ·cases hres
  rename_i b hb
  split at hres
  ·cases hres
  rename_i r hr
  refine J8 Hp (fun v => by rw [PySem.W.Fast.te1578499551869305889]; exact Abj _ _) ?_
  refine Gm hx H ?_
  intro s1 dd1 sl1 H1 K1 hT1 hS1
  dsimp only
  obtain ⟨N, tk, hN, hTk⟩ := H1.NT
  have turn : ∀ s2 td, At U.W s2 ([(D, plO U.P td t p)] ++ ((it, Bh PL (i + 1) dd1 sl1) :: (PL, A9 all m) :: (CP, A7 (some (.str (S8 part) pk))) :: (CH, A7 (some (.str (S8 host) th))) :: (acc, A9 accs n) :: F)) -> Keeps [D] s1 s2 ->
    wpOwn (Ak U.W) A (Be U.P L CH CP D it acc) (PySem.isTrue (J1 (Bv U.P)) (C1 U.P L CH CP D) (PySem.eval (J1 (Bv U.P)) (C1 U.P L CH CP D))) (fun ok s2 => match ok with
      | true => wpOwn (Ak U.W) A (Be U.P L CH CP D it acc) (PySem.eval (O8 (Bv U.P)) (C1 U.P L CH CP D)) (fun x s3 =>
        wpOwn (Ak U.W) A (Be U.P L CH CP D it acc) (call (.builtin "list.append") [.ref acc, x]) (fun _ s4 => codeAny (Ak U.W) A (Be U.P L CH CP D it acc) R s4) G5 s3) G5 s2
      | false => codeAny (Ak U.W) A (Be U.P L CH CP D it acc) R s2) G5 s2 := by
   intro s2 td H2 K2
   refine X7 (F := (it, Bh PL (i + 1) dd1 sl1) :: (PL, A9 all m) :: (acc, A9 accs n) :: F) hb hl (hle p (.head _)) hA hD H2.up4.up4.up2 ?_
   intro s3 H3 K3
   cases b with
   | false =>
    simp only [Bool.false_eq_true, if_false, Option.some.injEq] at hres
    subst hres
    refine V7 hl hall rem vs' (i+1) dd1 sl1 _ accs n r A s3 R hv' (by lia) hI' (fun q hq => hle q (.tail _ hq)) hr (.inr ⟨_, _, _, rfl⟩) (by lia) hA hD H3.up4.up4 ?_
    intro s' o' dO' vs'' n' hdO' hvs H' K'
    exact cont s' o' dO' vs'' n' hdO' hvs H' ((K1.mono (by intro y hy; simp at hy; simp [hy])).trans ((K2.mono (by intro y hy; simp at hy; simp [hy])).trans ((K3.mono (by intro y hy; simp at hy; rcases hy with h | h | h <;> simp [h])).trans K')))
   | true =>
    simp only [if_true, Option.some.injEq] at hres
    subst hres
    dsimp only
    obtain ⟨N3, tk3, hN3, hT3⟩ := H3.NT
    have H3a : At U.W s3 ([(D, plO U.P td t p)] ++ ((CP, A7 (some (.str (S8 part) pk))) :: (CH, A7 (some (.str (S8 host) th))) :: (it, Bh PL (i + 1) dd1 sl1) :: (PL, A9 all m) :: (acc, A9 accs n) :: F)) := H3
    refine Bf (Br (Au (olds := [D]) (Ac6 U N3 tk3 L CH CP D it acc td t p) hA (dl hD) H3a rfl rfl rfl rfl hN3 hT3 trivial ?_))
    intro s4 H4 K4 _ _
    refine Hi hA (dl hD) (by lia) (At.up5 H4) ?_
    intro s5 H5 K5
    refine V7 hl hall rem vs' (i+1) dd1 sl1 _ (accs ++ [.int ((p : Int) + 1) (tk3+1574)]) (n+1) r A s5 R hv' (by lia) hI' (fun q hq => hle q (.tail _ hq)) hr (.inr ⟨td, t, p, rfl⟩) (by simp; lia) hA hD H5.up3.up3.up3.up5.up5 ?_
    intro s' o' dO' vs'' n' hdO' hvs H' K'
    refine cont s' o' dO' (.int ((p : Int) + 1) (tk3+1574) :: vs'') n' hdO' (.cons _ _ hvs) (by rw [List.append_assoc] at H'; exact H') ((K1.mono (by intro y hy; simp at hy; simp [hy])).trans ((K2.mono (by intro y hy; simp at hy; simp [hy])).trans ((K3.mono (by intro y hy; simp at hy; rcases hy with h | h | h <;> simp [h])).trans ((K4.mono (by intro y hy; simp at hy; simp [hy])).trans ((K5.mono (by intro y hy; simp at hy; simp [hy])).trans K')))))
  rcases Lu with rfl | ⟨td, ik, oi, rfl⟩
  ·refine Bp (By (Au (olds := [D]) (M := (it, Bh PL (i + 1) dd1 sl1) :: (PL, A9 all m) :: (CP, A7 (some (.str (S8 part) pk))) :: (CH, A7 (some (.str (S8 host) th))) :: (acc, A9 accs n) :: F) (Yb U N tk L CH CP D it acc 0 t p default) hA (dl hD) H1.up2 rfl rfl rfl rfl hN hTk trivial ?_))
   intro s2 H2 K2 _ _
   exact turn s2 _ H2 K2
  ·refine Bp (By (Au (olds := [D]) (M := (it, Bh PL (i + 1) dd1 sl1) :: (PL, A9 all m) :: (CP, A7 (some (.str (S8 part) pk))) :: (CH, A7 (some (.str (S8 host) th))) :: (acc, A9 accs n) :: F) (Zx U N tk L CH CP D it acc td t p (.int (oi : Int) ik)) hA (dl hD) H1.up2 rfl rfl rfl rfl hN hTk trivial ?_))
   intro s2 H2 K2 _ _
   exact turn s2 _ H2 K2
end
structure KB (B : Nat) (s s' : Shared) : Prop where
 keep : ∀ b o, b < B -> s.heap.get? b = some o -> s'.heap.get? b = some o
 size : s.heap.objs.size <= s'.heap.objs.size
 dr : s'.drawn = s.drawn
 os : s'.os = s.os
theorem KB.refl {B : Nat} : KB B s s := ⟨fun _ _ _ h => h, Nat.le_refl _, rfl, rfl⟩
theorem KB.trans {B : Nat} {s s' s'' : Shared} (a : KB B s s') (b : KB B s' s'') : KB B s s'' :=
 ⟨fun c o n h => b.keep _ _ n (a.keep _ _ n h), Nat.le_trans a.size b.size, b.dr.trans a.dr, b.os.trans a.os⟩
theorem Keeps.kb {X : List Nat} {B : Nat} {s s' : Shared} (a : Keeps X s s') (h : ∀ y ∈ X, B <= y) : KB B s s' :=
 ⟨fun c o n e => a.keep _ _ e fun m => Nat.not_lt.mpr (h _ m) n, a.size, a.dr, a.os⟩
theorem Keeps.then_kb {X : List Nat} {B : Nat} {s s' s'' : Shared} (a : Keeps X s s') (b : KB B s' s'') (h : s.heap.objs.size <= B) : Keeps X s s'' :=
 ⟨fun c o e n => b.keep _ _ (Nat.lt_of_lt_of_le (Heap.lt_size e) h) (a.keep _ _ e n), Nat.le_trans a.size b.size, b.dr.trans a.dr, b.os.trans a.os⟩
noncomputable def Re (host : List Nat) : List Nat -> Option (List Nat)
 | [] => some []
 | [p] => if p <= host.length then some ((List.range (host.length + 1 - p)).map fun i => p + i) else none
 | _ => none
noncomputable def T1 (host part places : List Nat) : Option (List Nat) :=
 if part = Aj then Re host places else if places.all (fun p => decide (p <= 100)) && decide (places.length <= 100) then Ov host part places else none
noncomputable def X5 (host : List Nat) : List (List Nat) -> List Nat -> Option (List Nat)
 | [], pl => some pl
 | part :: ps, pl => match T1 host part pl with
  | none => none
  | some r => X5 host ps r
theorem Tq {part : List Nat} (h : part ≠ Aj) : Bo (S8 part) ⟨#[109, 97, 110, 121]⟩ = false := by
 unfold Bo
 simpa [S8, Aj] using h
section
variable (U : Fl) (N tk : Nat)
theorem Aae (L CH CP it t1 t2 t3 tp ts pk PL : Nat) (pat : Str) : Es 340 U.W [L, CP] 2 N tk [] [Ex U.P t1 t2 t3 (.str pat tp) (.str ⟨⟨Aj⟩⟩ ts) (.ref PL), A7 (some (.str ⟨⟨Aj⟩⟩ pk))] 49 0x00000102 (Bx U.P L CH CP it) .base (Ei (Fx (Mf U.P)) (C4 U.P L CH CP)) [0, 1] (.fin (.ret (.bool true))) 0 0
  [] := by
 obtain ⟨b, _⟩ := U; cases b <;> kernel_rfl
theorem Yl : Eb (Ed U.P) = [Mf U.P] := by kernel_rfl
theorem Aaf : L8 (Ed U.P) = [] := by kernel_rfl
theorem Al1 (v1 v2 : Value) : Ci (Fi (Ed U.P)) v1 v2 = pure () := by kernel_rfl
theorem Agh : Mf U.P = .If (Fx (Mf U.P)) [Bd U.P] (ifE (Mf U.P)) (ifP (Mf U.P)) := by kernel_rfl
theorem Ah7 : Bd U.P = .Assign (Wl (Bd U.P)) (F2 (Bd U.P)) (asP (Bd U.P)) := by kernel_rfl
noncomputable def ieP : Expr -> Pos | .IfExp _ _ _ p => p | _ => ⟨0, 0, 0, 0⟩
theorem Ako : F2 (Bd U.P) = .IfExp (Sl (F2 (Bd U.P))) (ieB (F2 (Bd U.P))) (ieO (F2 (Bd U.P))) (ieP (F2 (Bd U.P))) := by kernel_rfl
theorem Aky : Sl (F2 (Bd U.P)) = .Compare (C2 (Sl (F2 (Bd U.P)))) [.NotEq] [Bi (Sl (F2 (Bd U.P)))] (Lo (Sl (F2 (Bd U.P)))) := by kernel_rfl
theorem Aht : behindInMarks .NotEq (Bi (Sl (F2 (Bd U.P)))) = false := by kernel_rfl
theorem Aiq (L CH CP ln : Nat) : swapsWithSole (Wl (Bd U.P)) (F2 (Bd U.P)) ln (C4 U.P L CH CP) = pure false := by kernel_rfl
end
theorem Ry {w : World} {r : Nat} {p L : Nat} {t u v : Nat} {F : List (Nat × Obj)} (hA : A.handled = none) (hp : p <= L) (hL : L <= 1000) (H : At w s ((r, rgO p L t u v) :: F))
  (cont : ∀ s' V vs m, IntsV vs ((List.range (L - p)).map fun (i : Nat) => ((p + i : Nat) : Int)) -> At w s' ((V, A9 vs m) :: F) -> Keeps [] s s' -> s.heap.objs.size <= V -> R (.ok (.ret (.ref V))) s') :
  codeAny (Ak w) A (.call (.type "list") ⟨[.ref r], []⟩) R s :=
 codeAny_mono (W1 (Q := fun v s => R (.ok (.ret v)) s) hA hp hL H cont) fun r s5 hr5 => by
  cases r with
  | error e => exact hr5.elim
  | ok fl =>
   cases fl with
   | ret v => exact hr5
   | _ => exact hr5.elim
section
variable {U : Fl}
theorem Yg {host pat : List Nat} {L CH CP it t1 t2 t3 tp ts th pk PL m B : Nat} {places res : List Nat} {vs : List Value} {F : List (Nat × Obj)} {Q : Flow -> Shared -> Prop} {E : Value -> Shared -> Prop} (hl : host.length <= 100) (hr : Re host places = some res) (hvs : IntsV vs (G0 places))
  (hA : A.handled = none) (hD : A.depth <= 330) (hU : A.units <= 9000) (hB : B <= L /\ B <= CP /\ B <= CH /\ B <= PL) (hBs : B <= s.heap.objs.size)
  (H : At U.W s ((L, Ex U.P t1 t2 t3 (.str (S8 pat) tp) (.str ⟨⟨Aj⟩⟩ ts) (.ref PL)) :: (CP, A7 (some (.str ⟨⟨Aj⟩⟩ pk))) :: (CH, A7 (some (.str (S8 host) th))) :: (PL, A9 vs m) :: F))
  (cont : ∀ s' PL' vs' m', IntsV vs' (G0 res) -> B <= PL' -> At U.W s' ((L, Ex U.P t1 t2 t3 (.str (S8 pat) tp) (.str ⟨⟨Aj⟩⟩ ts) (.ref PL')) :: (CP, A7 (some (.str ⟨⟨Aj⟩⟩ pk))) :: (CH, A7 (some (.str (S8 host) th))) :: (PL', A9 vs' m') :: F) -> KB B s s' -> Q .next s') :
  wpOwn (Ak U.W) A (Bx U.P L CH CP it) (PySem.execs (Eb (Ed U.P)) (C4 U.P L CH CP)) Q E s := by
 obtain ⟨hB1, hB2, hB3, hB4⟩ := hB
 have hplen : places.length <= 1 := by
  unfold Re at hr
  split at hr <;> first | (simp; done) | cases hr
 have hvl : vs.length <= 1 := by
  rw [hvs.length]
  simpa [G0] using hplen
 rw [Yl]
 refine B4 ?_
 rw [Agh]
 refine Fr ?_
 obtain ⟨N, tk, hN, hT⟩ := H.NT
 refine B8 (Bs (Au (olds := [L, CP]) (Aae U N tk L CH CP it t1 t2 t3 tp ts pk PL (S8 pat)) hA (dl hD) H rfl rfl rfl rfl hN hT trivial ?_))
 intro s1 H1 K1 _ hS1
 refine B4 ?_
 rw [Ah7]
 refine Py (Aiq U L CH CP _) ?_
 have e1 : PySem.eval (F2 (Bd U.P)) (C4 U.P L CH CP) = PySem.eval (.IfExp (Sl (F2 (Bd U.P))) (ieB (F2 (Bd U.P))) (ieO (F2 (Bd U.P))) (ieP (F2 (Bd U.P)))) (C4 U.P L CH CP) := congrArg (fun x => PySem.eval x (C4 U.P L CH CP)) (Ako U)
 rw [e1]
 refine Rr ?_
 have bind : ∀ s5 PL' vs' m', IntsV vs' (G0 res) -> B <= PL' -> At U.W s5 ((L, Ex U.P t1 t2 t3 (.str (S8 pat) tp) (.str ⟨⟨Aj⟩⟩ ts) (.ref PL)) :: (CP, A7 (some (.str ⟨⟨Aj⟩⟩ pk))) :: (CH, A7 (some (.str (S8 host) th))) :: (PL', A9 vs' m') :: F) -> KB B s s5 ->
   wpOwn (Ak U.W) A (Bx U.P L CH CP it) (PySem.W.R.bindR (F5 (Wl (Bd U.P)) (F2 (Bd U.P)) (C4 U.P L CH CP)) fun sw => Gp (C4 U.P L CH CP) (.ref PL') sw ((D7 (Wl (Bd U.P)) (C4 U.P L CH CP)).map (·.2))) (fun f s' => match f with | .next => wpOwn (Ak U.W) A (Bx U.P L CH CP it) (PySem.execs [] (C4 U.P L CH CP)) (fun f s' => match f with | .next => wpOwn (Ak U.W) A (Bx U.P L CH CP it) (PySem.execs [] (C4 U.P L CH CP)) Q E s' | f => Q f s') E s' | f => (match f with | .next => wpOwn (Ak U.W) A (Bx U.P L CH CP it) (PySem.execs [] (C4 U.P L CH CP)) Q E s' | f => Q f s')) E s5 := by
  intro s5 PL' vs' m' hvs' hB5 H5 K5
  obtain ⟨N5, tk5, hN5, hT5⟩ := H5.NT
  refine Bj (Au (olds := [L]) (Ad2 U N5 tk5 L CH CP it t1 t2 t3 tp ts PL PL' (S8 pat)) hA (dl hD) H5 rfl rfl rfl rfl hN5 hT5 trivial ?_)
  intro s6 H6 K6 _ _
  refine Aw (Aw (cont s6 PL' vs' m' hvs' hB5 H6 (K5.trans (K6.kb ?_))))
  intro y hy; simp at hy; lia
 have e2 : ∀ e, PySem.isTrue (Sl (F2 (Bd U.P))) (C4 U.P L CH CP) e = PySem.isTrue (.Compare (C2 (Sl (F2 (Bd U.P)))) [.NotEq] [Bi (Sl (F2 (Bd U.P)))] (Lo (Sl (F2 (Bd U.P))))) (C4 U.P L CH CP) e := fun e => congrArg (fun x => PySem.isTrue x (C4 U.P L CH CP) e) (Aky U)
 rw [e2]
 refine J6 (Aht U) ?_
 obtain ⟨N1, tk1, hN1, hT1⟩ := H1.NT
 refine Bf (Br (Au (olds := [L]) (Afl U N1 tk1 L CH CP it t1 t2 t3 tp ts PL (S8 pat)) hA (dl hD) H1 rfl rfl rfl rfl hN1 hT1 trivial ?_))
 intro s2 H2 K2 _ hS2
 obtain ⟨N2, tk2, hN2, hT2⟩ := H2.NT
 refine Bf (Br (C5 (L := []) (W := [(0, A9 [] 0)]) (Ada U N2 tk2 L CH CP it) hA (dl hD) H2.nil rfl rfl rfl hN2 hT2 rfl rfl (by decide) (by decide) trivial ?_))
 intro s3 H3 K3 _ hS3
 have H3a : At U.W s3 ((N2+884, A9 [] 0) :: (L, Ex U.P t1 t2 t3 (.str (S8 pat) tp) (.str ⟨⟨Aj⟩⟩ ts) (.ref PL)) :: (CP, A7 (some (.str ⟨⟨Aj⟩⟩ pk))) :: (CH, A7 (some (.str (S8 host) th))) :: (PL, A9 vs m) :: F) := At.next (L := []) (L' := [(N2+884, A9 [] 0)]) H2 H3 K3 (fun q hq => by
  right
  have h : q.1 = N2+884 := congrArg Prod.fst (List.mem_singleton.mp hq)
  lia)
 have k3 : KB B s s3 := (K1.kb (B := B) (by intro y hy; simp at hy; lia)).trans ((K2.kb (by intro y hy; simp at hy; lia)).trans (K3.kb (by intro y hy; cases hy)))
 refine Pb (xs := vs) (n := m) (m := 0) (by lia) (H3a.own _ (.tail _ (.tail _ (.tail _ (.tail _ (.head _)))))) (H3a.own _ (.head _)) ?_ ⟨_, rfl, ?_⟩
 ·show A.units + (Bx U.P L CH CP it).cUnits + 10 < cLine
  have := Ea (Bx U.P L CH CP it)
  have : cLine = 9900 := rfl
  lia
 have H3b := H3a.tl
 obtain ⟨N3, tk3, hN3, hT3⟩ := H3b.NT
 have hs3 := k3.size
 match places, hvs, hr with
 | [], hvs, hr =>
  cases hvs
  cases hr
  refine Bf (Br (C5 (L := []) (W := [(0, A9 [] 0)]) (Af0 U N3 tk3 L CH CP it) hA (dl hD) H3b.nil rfl rfl rfl hN3 hT3 rfl rfl (by decide) (by decide) trivial ?_))
  intro s4 H4 K4 _ hS4
  have H4a : At U.W s4 ((N3+884, A9 [] 0) :: (L, Ex U.P t1 t2 t3 (.str (S8 pat) tp) (.str ⟨⟨Aj⟩⟩ ts) (.ref PL)) :: (CP, A7 (some (.str ⟨⟨Aj⟩⟩ pk))) :: (CH, A7 (some (.str (S8 host) th))) :: (PL, A9 [] m) :: F) := At.next (L := []) (L' := [(N3+884, A9 [] 0)]) H3b H4 K4 (fun q hq => by
   right
   have h : q.1 = N3+884 := congrArg Prod.fst (List.mem_singleton.mp hq)
   lia)
  exact bind s4 (N3+884) [] 0 .nil (by lia) H4a.up4.tl.up3.up3.up3 (k3.trans (K4.kb (by intro y hy; cases hy)))
 | [p], hvs, hr =>
  obtain ⟨t, rfl⟩ : ∃ t, vs = [.int (p : Int) t] := by
   cases hvs with
   | cons x t h => cases h; exact ⟨t, rfl⟩
  simp only [Re] at hr
  split at hr
  case isFalse => cases hr
  rename_i hple
  cases hr
  have H3c : At U.W s3 ([(L, Ex U.P t1 t2 t3 (.str (S8 pat) tp) (.str ⟨⟨Aj⟩⟩ ts) (.ref PL)), (CH, A7 (some (.str (S8 host) th))), (PL, A9 [.int (p : Int) t] m)] ++ ((CP, A7 (some (.str ⟨⟨Aj⟩⟩ pk))) :: F)) := H3b.up3.up3.up2
  have hlen : ((S8 host).length : Int) < 2 ^ 63 := by rw [Hm]; lia
  refine Bf (Br (C5 (W := [0, 1, 2, 7].zip [_, _, _, _]) (Adu U N3 tk3 L CH CP it t1 t2 t3 tp ts th PL m t (S8 pat) (S8 host) (p : Int)) hA (dl hD) H3c.left rfl rfl rfl hN3 hT3 rfl rfl (by decide) (by decide) ⟨Il hlen, trivial⟩ ?_))
  intro s4 H4 K4 _ hS4
  have H4a := At.next H3c H4 K4 (fun q hq => by
   have h : q.1 ∈ [L, CH, PL, N3+884+4] := List.mem_map_of_mem (f := (·.1)) hq
   simp only [List.mem_cons, List.not_mem_nil, or_false] at h
   rcases h with h | h | h | h
   ·left; rw [h]; simp
   ·left; rw [h]; simp
   ·left; rw [h]; simp
   ·right; lia)
  have er : (⟨.type "range", none, .fields #[.int (p : Int) t, .int (((S8 host).length : Int) + (1)) (tk3+1576), .int (1) (tk3+1577)], #[]⟩ : Obj) = rgO ((p : Nat) : Int) ((host.length + 1 : Nat) : Int) t (tk3+1576) (tk3+1577) := by
   rw [Hm]
   push_cast
   rfl
  have H4b : At U.W s4 ((N3+884+4, rgO ((p : Nat) : Int) ((host.length + 1 : Nat) : Int) t (tk3+1576) (tk3+1577)) :: (L, Ex U.P t1 t2 t3 (.str (S8 pat) tp) (.str ⟨⟨Aj⟩⟩ ts) (.ref PL)) :: (CH, A7 (some (.str (S8 host) th))) :: (PL, A9 [.int (p : Int) t] m) :: (CP, A7 (some (.str ⟨⟨Aj⟩⟩ pk))) :: F) := by
   rw [<- er]
   exact At.up3 H4a
  intro A' hA' hD'
  refine Ry hA' (by lia) (by lia) H4b ?_
  intro s5 V vs5 m5 hvs5 H5 K5 hV
  obtain ⟨N5, tk5, hN5, hT5⟩ := H5.NT
  refine C5 (L := []) (W := []) (Ae9 U N3 tk3 L CH CP it t1 t2 t3 tp ts th PL m t (S8 pat) (S8 host) (p : Int) N5 tk5 V) hA (dl hD) H5.nil rfl rfl rfl hN5 hT5 rfl rfl List.nodup_nil (by intro j hj; cases hj) trivial ?_
  intro s6 H6 K6 _ _
  have H6a : At U.W s6 ((V, A9 vs5 m5) :: (L, Ex U.P t1 t2 t3 (.str (S8 pat) tp) (.str ⟨⟨Aj⟩⟩ ts) (.ref PL)) :: (CH, A7 (some (.str (S8 host) th))) :: (PL, A9 [.int (p : Int) t] m) :: (CP, A7 (some (.str ⟨⟨Aj⟩⟩ pk))) :: F) := At.next (L := []) (L' := []) H5 H6 K6 (by intro q hq; cases hq)
  have e5 : G0 ((List.range (host.length + 1 - p)).map fun i => p + i) = (List.range (host.length + 1 - p)).map fun (i : Nat) => ((p + i : Nat) : Int) := by
   unfold G0
   rw [List.map_map]
   rfl
  have k4 : KB B s3 s4 := K4.kb (by intro y hy; simp at hy; lia)
  have hs4 := k4.size
  refine bind s6 V vs5 m5 (by rw [e5]; exact hvs5) (by lia) H6a.up3.tl.up2.up3.up3 ?_
  exact k3.trans (k4.trans ((K5.kb (by intro y hy; cases hy)).trans (K6.kb (by intro y hy; cases hy))))
end
section
variable {U : Fl}
theorem On {L CH CP D it acc : Nat} : Mv U.P L CH CP D it acc = .compStart (.ListComp (O8 (Bv U.P)) [⟨Nu (Bv U.P), X1 (Bv U.P), [J1 (Bv U.P)], 0⟩] (Rs (Bv U.P)) (Z3 (Bv U.P))) 0 (.ref it) (.ref acc) (C1 U.P L CH CP D) := by
 unfold Mv
 rw [<- Ab4]
theorem Zt {part host pat : List Nat} {L CH CP it t1 t2 t3 tp ts th pk PL m B : Nat} {places res : List Nat} {vs : List Value} {F : List (Nat × Obj)} {Q : Flow -> Shared -> Prop} {E : Value -> Shared -> Prop} (hl : host.length <= 100) (hpm : part ≠ Aj) (hpl : ∀ p ∈ places, p <= 100) (hpl2 : places.length <= 100) (hr : Ov host part places = some res) (hvs : IntsV vs (G0 places))
  (hA : A.handled = none) (hD : A.depth <= 330) (hB : B <= L /\ B <= CP /\ B <= CH /\ B <= PL) (hBs : B <= s.heap.objs.size)
  (H : At U.W s ((L, Ex U.P t1 t2 t3 (.str (S8 pat) tp) (.str ⟨⟨Aj⟩⟩ ts) (.ref PL)) :: (CP, A7 (some (.str (S8 part) pk))) :: (CH, A7 (some (.str (S8 host) th))) :: (PL, A9 vs m) :: F))
  (cont : ∀ s' PL' vs' m', IntsV vs' (G0 res) -> B <= PL' -> At U.W s' ((L, Ex U.P t1 t2 t3 (.str (S8 pat) tp) (.str ⟨⟨Aj⟩⟩ ts) (.ref PL')) :: (CP, A7 (some (.str (S8 part) pk))) :: (CH, A7 (some (.str (S8 host) th))) :: (PL', A9 vs' m') :: F) -> KB B s s' -> Q .next s') :
  wpOwn (Ak U.W) A (Bx U.P L CH CP it) (PySem.execs (Eb (Ed U.P)) (C4 U.P L CH CP)) Q E s := by
 obtain ⟨hB1, hB2, hB3, hB4⟩ := hB
 have hvl : vs.length <= 100 := by
  rw [hvs.length]
  simpa [G0] using hpl2
 obtain ⟨N, tk, hN, hT⟩ := H.NT
 have Ha : At U.W s ([(L, Ex U.P t1 t2 t3 (.str (S8 pat) tp) (.str ⟨⟨Aj⟩⟩ ts) (.ref PL)), (CP, A7 (some (.str (S8 part) pk))), (PL, A9 vs m)] ++ ((CH, A7 (some (.str (S8 host) th))) :: F)) := H.up3.up2.up2
 refine Bm (Bj (C5 (W := [0, 1, 2, 3, 4, 5].zip [_, _, _, _, _, _]) (Ac0 U N tk L CH CP it t1 t2 t3 tp ts PL m pk (S8 pat) (S8 part) vs) hA (dl hD) Ha.left rfl rfl rfl hN hT rfl rfl (by decide) (by decide) ⟨Tq hpm, trivial⟩ ?_))
 intro s1 H1 K1 _ hS1
 have H1a : At U.W s1 ((L, Ex U.P t1 t2 t3 (.str (S8 pat) tp) (.str ⟨⟨Aj⟩⟩ ts) (.ref PL)) :: (CP, A7 (some (.str (S8 part) pk))) :: (PL, A9 vs m) :: (N+884, Bh PL 0 none #[]) :: (N+884+1, A9 [] 0) :: (N+884+2, eD) :: (CH, A7 (some (.str (S8 host) th))) :: F) := At.next Ha H1 K1 (fun q hq => by
  have h : q.1 ∈ [L, CP, PL, N+884, N+884+1, N+884+2] := List.mem_map_of_mem (f := (·.1)) hq
  simp only [List.mem_cons, List.not_mem_nil, or_false] at h
  rcases h with h | h | h | h | h | h
  ·left; rw [h]; simp
  ·left; rw [h]; simp
  ·left; rw [h]; simp
  ·right; lia
  ·right; lia
  ·right; lia)
 intro A' hA' hD'
 have k1 : KB B s s1 := K1.kb (by intro y hy; simp at hy; lia)
 have loop : codeAny (Ak U.W) A' (Be U.P L CH CP (N+884+2) (N+884) (N+884+1)) (fun r s'' => MK U.W A (RF Q) (Fs U N tk L CH CP it t1 t2 t3 tp ts PL m pk (S8 pat) (S8 part) vs).c (Fs U N tk L CH CP it t1 t2 t3 tp ts PL m pk (S8 pat) (S8 part) vs).κ (Cb (Fs U N tk L CH CP it t1 t2 t3 tp ts PL m pk (S8 pat) (S8 part) vs).t r) s'') s1 := by
  refine V7 (PL := PL) (m := m) (all := vs) (part := part) (host := host) (pk := pk) (th := th) (F := (L, Ex U.P t1 t2 t3 (.str (S8 pat) tp) (.str ⟨⟨Aj⟩⟩ ts) (.ref PL)) :: F) hl (by lia) places vs 0 none #[] eD [] 0 res A' s1 _ rfl (Nat.zero_le _) hvs hpl hr (.inl rfl) (Nat.le_refl _) hA' (Dv hD' hD) H1a.up4.up6.up3.up6.up5.up6 ?_
  intro s2 o2 dO2 vs2 n2 hdO2 hvs2 H2 K2
  have H2a : At U.W s2 ([(L, Ex U.P t1 t2 t3 (.str (S8 pat) tp) (.str ⟨⟨Aj⟩⟩ ts) (.ref PL)), (N+884+2, dO2)] ++ ((CP, A7 (some (.str (S8 part) pk))) :: (CH, A7 (some (.str (S8 host) th))) :: (N+884+1, A9 ([] ++ vs2) n2) :: F)) := H2.tl.tl.up4
  have k2 : KB B s1 s2 := K2.kb (by intro y hy; simp at hy; lia)
  obtain ⟨M, K, hM, hK⟩ := H2a.NT
  rcases hdO2 with rfl | ⟨td, ik, oi, rfl⟩
  ·refine C5 (W := [(0, _)]) (Wq U N tk L CH CP it t1 t2 t3 tp ts PL m pk (S8 pat) (S8 part) vs M K 0 0 0) hA (dl hD) H2a.left rfl rfl rfl hM hK rfl rfl (by decide) (by decide) trivial ?_
   intro s3 H3 K3 _ _
   have H3a := At.next H2a H3 K3 (fun q hq => by
    left
    have h : q.1 = L := congrArg Prod.fst (List.mem_singleton.mp hq)
    rw [h]; exact .head _)
   exact cont s3 (N+884+1) vs2 n2 hvs2 (by lia) H3a (k1.trans (k2.trans (K3.kb (by intro y hy; simp at hy; lia))))
  ·refine C5 (W := [(0, _)]) (Z0 U N tk L CH CP it t1 t2 t3 tp ts PL m pk (S8 pat) (S8 part) vs M K td ik (oi : Int)) hA (dl hD) H2a.left rfl rfl rfl hM hK rfl rfl (by decide) (by decide) trivial ?_
   intro s3 H3 K3 _ _
   have H3a := At.next H2a H3 K3 (fun q hq => by
    left
    have h : q.1 = L := congrArg Prod.fst (List.mem_singleton.mp hq)
    rw [h]; exact .head _)
   exact cont s3 (N+884+1) vs2 n2 hvs2 (by lia) H3a (k1.trans (k2.trans (K3.kb (by intro y hy; simp at hy; lia))))
 rw [On]
 rw [Hp] at loop
 refine codeAny_compStart_list loop ?_
 exact wpAny_pyIter_listiter ⟨_, H1a.own _ (.tail _ (.tail _ (.tail _ (.head _)))), rfl, rfl⟩ loop
theorem Z6 {part host pat : List Nat} {L CH CP it t1 t2 t3 tp ts th pk PL m B : Nat} {places res : List Nat} {vs : List Value} {F : List (Nat × Obj)} {Q : Flow -> Shared -> Prop} {E : Value -> Shared -> Prop} (hl : host.length <= 100) (hr : T1 host part places = some res) (hvs : IntsV vs (G0 places))
  (hA : A.handled = none) (hD : A.depth <= 330) (hU : A.units <= 9000) (hB : B <= L /\ B <= CP /\ B <= CH /\ B <= PL) (hBs : B <= s.heap.objs.size)
  (H : At U.W s ((L, Ex U.P t1 t2 t3 (.str (S8 pat) tp) (.str ⟨⟨Aj⟩⟩ ts) (.ref PL)) :: (CP, A7 (some (.str (S8 part) pk))) :: (CH, A7 (some (.str (S8 host) th))) :: (PL, A9 vs m) :: F))
  (cont : ∀ s' PL' vs' m', IntsV vs' (G0 res) -> B <= PL' -> At U.W s' ((L, Ex U.P t1 t2 t3 (.str (S8 pat) tp) (.str ⟨⟨Aj⟩⟩ ts) (.ref PL')) :: (CP, A7 (some (.str (S8 part) pk))) :: (CH, A7 (some (.str (S8 host) th))) :: (PL', A9 vs' m') :: F) -> KB B s s' -> Q .next s') :
  wpOwn (Ak U.W) A (Bx U.P L CH CP it) (PySem.execs (Eb (Ed U.P)) (C4 U.P L CH CP)) Q E s := by
 unfold T1 at hr
 split at hr
 ·rename_i e
  subst e
  exact Yg hl hr hvs hA hD hU hB hBs H cont
 ·rename_i hne
  split at hr
  case isFalse => cases hr
  rename_i hc
  rw [Bool.and_eq_true, List.all_eq_true, decide_eq_true_eq] at hc
  exact Zt hl hne (fun p hp => by simpa using hc.1 p hp) hc.2 hr hvs hA hD hB hBs H cont
theorem Abk {host pat : List Nat} {L CH CP it RL t1 t2 t3 tp ts th n B : Nat} {all : List Value} {F : List (Nat × Obj)} (hl : host.length <= 100) (hall : all.length <= 1000) (hB : B <= L /\ B <= CP /\ B <= CH /\ B <= it) : ∀ (rem : List (List Nat)) (vs : List Value) (i : Nat) (dd : Option Addr) (sl : Array (Option Value)) (PL : Nat) (pvs : List Value) (m : Nat) (places res : List Nat) (ov : Option Value) (A : Around) (s : Shared) (R : Result -> Shared -> Prop),
  all.drop i = vs -> i <= all.length -> StrsAre vs (rem.map S8) -> X5 host rem places = some res -> IntsV pvs (G0 places) -> A.handled = none -> A.depth <= 330 -> A.units <= 9000 -> B <= PL -> B <= s.heap.objs.size ->
  At U.W s ((it, Bh RL i dd sl) :: (RL, A9 all n) :: (L, Ex U.P t1 t2 t3 (.str (S8 pat) tp) (.str ⟨⟨Aj⟩⟩ ts) (.ref PL)) :: (CP, A7 ov) :: (CH, A7 (some (.str (S8 host) th))) :: (PL, A9 pvs m) :: F) ->
  (∀ s' PL' pvs' m', IntsV pvs' (G0 res) -> B <= PL' -> At U.W s' ((L, Ex U.P t1 t2 t3 (.str (S8 pat) tp) (.str ⟨⟨Aj⟩⟩ ts) (.ref PL')) :: (CH, A7 (some (.str (S8 host) th))) :: (PL', A9 pvs' m') :: F) -> KB B s s' -> R (.ok .next) s') ->
  codeAny (Ak U.W) A (Bx U.P L CH CP it) R s
 | [], vs, i, dd, sl, PL, pvs, m, places, res, ov, A, s, R, hv, hi, hI, hr, hpv, hA, hD, hU, hBP, hBs, H, cont => by
  cases hr
  cases hI
  have hil : all.length = i := by
   have h := congrArg List.length hv
   simp at h
   lia
  unfold Bx
  refine Dr ?_
  refine Ir hA hil H ?_
  intro s1 o1 H1 K1 _
  dsimp only
  rw [Aaf]
  exact Cc (cont s1 PL pvs m hpv hBP H1.tl.tl.up1.tl.up2.up2.up2 (K1.kb (by intro y hy; simp at hy; lia)))
 | part :: rem, vs, i, dd, sl, PL, pvs, m, places, res, ov, A, s, R, hv, hi, hI, hr, hpv, hA, hD, hU, hBP, hBs, H, cont => by
  obtain ⟨t, vs', rfl, hI'⟩ : ∃ t vs', vs = .str (S8 part) t :: vs' /\ StrsAre vs' (rem.map S8) := by
   cases hI with
   | cons x t h => exact ⟨_, _, rfl, by assumption⟩
  have hlt : i < all.length := by
   have h := congrArg List.length hv
   simp at h
   lia
  have hx : all[i]? = some (.str (S8 part) t) := by
   have h := List.drop_eq_getElem_cons hlt
   rw [hv] at h
   rw [List.getElem?_eq_getElem hlt]
   exact congrArg some (List.cons.inj h).1.symm
  have hv' : all.drop (i + 1) = vs' := by
   have h := List.drop_eq_getElem_cons hlt
   rw [hv] at h
   exact (List.cons.inj h).2.symm
  simp only [X5] at hr
  split at hr
  ·cases hr
  rename_i r hstep
  obtain ⟨hB1, hB2, hB3, hB4⟩ := hB
  unfold Bx
  refine Dr ?_
  refine Gm hx H ?_
  intro s1 dd1 sl1 H1 K1 hT1 hS1
  have H1 : At U.W s1 ((it, Bh RL (i + 1) dd1 sl1) :: (RL, A9 all n) :: (L, Ex U.P t1 t2 t3 (.str (S8 pat) tp) (.str ⟨⟨Aj⟩⟩ ts) (.ref PL)) :: (CP, A7 ov) :: (CH, A7 (some (.str (S8 host) th))) :: (PL, A9 pvs m) :: F) := H1
  have k1 : KB B s s1 := K1.kb (by intro y hy; simp at hy; lia)
  dsimp only
  have hlo : letOwnedTupleGo (Fi (Ed U.P)) (.ref it) (.str (S8 part) t) = pure () := by rw [PySem.W.Fast.te1578499551869305889]; exact Al1 U _ _
  rw [hlo]
  refine An ?_
  obtain ⟨N, tk, hN, hTk⟩ := H1.NT
  refine Bp (By (Au (olds := [CP]) (M := (it, Bh RL (i + 1) dd1 sl1) :: (RL, A9 all n) :: (L, Ex U.P t1 t2 t3 (.str (S8 pat) tp) (.str ⟨⟨Aj⟩⟩ ts) (.ref PL)) :: (CH, A7 (some (.str (S8 host) th))) :: (PL, A9 pvs m) :: F) (Xq U N tk L CH CP it t (S8 part) ov) hA (dl hD) H1.up3 rfl rfl rfl rfl hN hTk trivial ?_))
  intro s2 H2 K2 _ hS2
  have H2a : At U.W s2 ((CP, A7 (some (.str (S8 part) t))) :: (it, Bh RL (i + 1) dd1 sl1) :: (RL, A9 all n) :: (L, Ex U.P t1 t2 t3 (.str (S8 pat) tp) (.str ⟨⟨Aj⟩⟩ ts) (.ref PL)) :: (CH, A7 (some (.str (S8 host) th))) :: (PL, A9 pvs m) :: F) := H2
  have k2 : KB B s1 s2 := K2.kb (by intro y hy; simp at hy; lia)
  have hs2 := (k1.trans k2).size
  refine Z6 (B := B) hl hstep hpv hA hD hU ⟨hB1, hB2, hB3, hBP⟩ (by lia) (H2a.up2.up2.up5.up5.up4.up5) ?_
  intro s3 PL' pvs' m' hpv' hBP' H3 K3
  have hs3 := K3.size
  refine Abk (n := n) (t1 := t1) (t2 := t2) (t3 := t3) (tp := tp) (ts := ts) (th := th) (pat := pat) (F := F) hl hall ⟨hB1, hB2, hB3, hB4⟩ rem vs' (i+1) dd1 sl1 PL' pvs' m' r res (some (.str (S8 part) t)) A s3 R hv' (by lia) hI' hr hpv' hA hD hU hBP' (by lia) H3.up5.up5 ?_
  intro s' PL2 pvs2 m2 hpv2 hB2' H' K'
  exact cont s' PL2 pvs2 m2 hpv2 hB2' H' ((k1.trans k2).trans (K3.trans K'))
end
noncomputable def Q9 (host : List Nat) (k : Nat) : Option Bool := match X5 host (Cz k) [0] with
 | none => none
 | some pl => some ((G0 pl).any (· == ((S8 host).length : Int)))
theorem Ob (k : Nat) : (Cz k).length <= 10 := by
 unfold Cz
 split <;> simp
section
variable {U : Fl}
theorem Uh {k tp th : Nat} {host : List Nat} {r : Bool} {tb : Obj} {F : List (Nat × Obj)} (hk : k < 8) (hl : host.length <= 100) (hr : Q9 host k = some r) (htb : Du tb) (hA : A.handled = none) (hD : A.depth <= 320) (hU : A.units <= 8900)
  (H : At U.W s ((105, tb) :: F))
  (cont : ∀ s' tb', Du tb' -> At U.W s' ((105, tb') :: F) -> Keeps [105] s s' -> R (.ok (.ret (.bool r))) s') :
  codeAny (Ak U.W) A (.call (.ref 864) ⟨[.str (S8 (As k)) tp, .str (S8 host) th], []⟩) R s := by
 obtain ⟨N, tk, hN, hT⟩ := H.NT
 unfold Q9 at hr
 split at hr
 ·cases hr
 rename_i res hrun
 simp only [Option.some.injEq] at hr
 refine Aa (C5 (L := []) (W := [0, 1, 2, 3].zip [_, _, _, _]) (Adk U N tk (S8 (As k)) (S8 host) tp th) hA (dl hD) H.nil rfl rfl rfl hN hT rfl rfl (by decide) (by decide) trivial ?_)
 intro s1 H1 K1 hT1 hS1
 have H1a : At U.W s1 ((N+884, Ex U.P (tk+1573) (tk+1575) (tk+1577) (.str (S8 (As k)) tp) (.str ⟨⟨Aj⟩⟩ (tk+1574)) (.ref (N+884+3))) :: (N+884+1, A7 (some (.str (S8 host) th))) :: (N+884+2, A7 none) :: (N+884+3, A9 [.int 0 (tk+1576)] 0) :: (105, tb) :: F) := At.next (L := []) H H1 K1 (fun q hq => by
  right
  have h : q.1 ∈ [N+884, N+884+1, N+884+2, N+884+3] := List.mem_map_of_mem (f := (·.1)) hq
  simp only [List.mem_cons, List.not_mem_nil, or_false] at h
  lia)
 intro A' hA' hD'
 refine Aka (tk := tk + 6) hk htb hA' (Dv hD' hD) (by lia) H1a.up4 ?_
 intro s2 RL vs n tb2 htb2 hvs H2 K2 hRL
 obtain ⟨M, K, hM, hK⟩ := H2.NT
 have k2 := K2.size
 have H2a : At U.W s2 ([(RL, A9 vs n)] ++ ((105, tb2) :: (N+884, Ex U.P (tk+1573) (tk+1575) (tk+1577) (.str (S8 (As k)) tp) (.str ⟨⟨Aj⟩⟩ (tk+1574)) (.ref (N+884+3))) :: (N+884+1, A7 (some (.str (S8 host) th))) :: (N+884+2, A7 none) :: (N+884+3, A9 [.int 0 (tk+1576)] 0) :: F)) := H2.up1
 refine F9 (W := [0, 1].zip [_, _]) (Ach U N tk (S8 (As k)) (S8 host) tp th M K RL n vs default) hA (dl hD) H2a.left rfl rfl rfl hM hK rfl rfl (by decide) (by decide) trivial ?_
 intro s3 H3 K3 hT3 hS3
 have H3a : At U.W s3 ((RL, A9 vs n) :: (M+884, Bh RL 0 none #[]) :: (105, tb2) :: (N+884, Ex U.P (tk+1573) (tk+1575) (tk+1577) (.str (S8 (As k)) tp) (.str ⟨⟨Aj⟩⟩ (tk+1574)) (.ref (N+884+3))) :: (N+884+1, A7 (some (.str (S8 host) th))) :: (N+884+2, A7 none) :: (N+884+3, A9 [.int 0 (tk+1576)] 0) :: F) := At.next H2a H3 K3 (fun q hq => by
  have h : q.1 ∈ [RL, M+884] := List.mem_map_of_mem (f := (·.1)) hq
  simp only [List.mem_cons, List.not_mem_nil, or_false] at h
  rcases h with h | h
  ·left; rw [h]; exact .head _
  ·right; lia)
 have k12 : Keeps [105] s s2 := (K1.mono (by intro y hy; cases hy)).trans K2
 have k3 : KB (N+884) s2 s3 := K3.kb (by intro y hy; simp at hy; lia)
 intro A2 hA2 hD2 hU2 _
 have hlen : vs.length = (Cz k).length := by rw [StrsAre.len hvs]; simp
 have hp10 := Ob k
 refine Abk (B := N+884) (RL := RL) (n := n) (all := vs) (t1 := tk+1573) (t2 := tk+1575) (t3 := tk+1577) (tp := tp) (ts := tk+1574) (th := th) (pat := As k) (F := (105, tb2) :: F) hl (by lia) ⟨by lia, by lia, by lia, by lia⟩ (Cz k) vs 0 none #[] (N+884+3) [.int 0 (tk+1576)] 0 [0] res none A2 s3 _ rfl (Nat.zero_le _) hvs hrun (.cons _ _ .nil) hA2 (Dv hD2 hD) (by lia) (by lia) (by lia) ?_ ?_
 ·exact H3a.up2.up6.up5.up6.up6.up5.up6
 intro s4 PL' pvs m hpvs hPL H4 K4
 obtain ⟨X, Y, hX, hY⟩ := H4.NT
 have H4a : At U.W s4 ([(N+884, Ex U.P (tk+1573) (tk+1575) (tk+1577) (.str (S8 (As k)) tp) (.str ⟨⟨Aj⟩⟩ (tk+1574)) (.ref PL')), (N+884+1, A7 (some (.str (S8 host) th))), (PL', A9 pvs m)] ++ ((105, tb2) :: F)) := H4
 have hlen' : ((S8 host).length : Int) < 2 ^ 63 := by rw [Hm]; lia
 have fin : ∀ s5, At U.W s5 ([(N+884, Ex U.P (tk+1573) (tk+1575) (tk+1577) (.str (S8 (As k)) tp) (.str ⟨⟨Aj⟩⟩ (tk+1574)) (.ref PL')), (N+884+1, A7 (some (.str (S8 host) th))), (PL', A9 pvs m)] ++ ((105, tb2) :: F)) -> Keeps [N+884, N+884+1, PL'] s4 s5 -> R (.ok (.ret (.bool r))) s5 := by
  intro s5 H5 K5
  refine cont s5 tb2 htb2 H5.drop (k12.then_kb (k3.trans (K4.trans (K5.kb ?_))) (by lia))
  intro y hy
  simp at hy
  lia
 have g1 : Ac pw U.W (.call (.builtin "list.__contains__") ⟨[.ref PL', .int ((S8 host).length : Int) (Y+1574)], []⟩) (Y+1575) (X+884) [(PL', A9 pvs m)] [] [] (.bool r) 0 := by
  rw [<- hr]
  exact C0 hpvs
 cases r with
 | false => exact Au (olds := [N+884, N+884+1, PL']) (Mp U N tk (S8 (As k)) (S8 host) tp th M K RL n X Y vs pvs default (tk+1573) (tk+1575) (tk+1577) (tk+1574) PL' m) hA (dl hD) H4a rfl rfl rfl rfl hX hY ⟨g1, Il hlen', trivial⟩ (fun s5 H5 K5 _ _ => fin s5 H5 K5)
 | true => exact Au (olds := [N+884, N+884+1, PL']) (O2 U N tk (S8 (As k)) (S8 host) tp th M K RL n X Y vs pvs default (tk+1573) (tk+1575) (tk+1577) (tk+1574) PL' m) hA (dl hD) H4a rfl rfl rfl rfl hX hY ⟨g1, Il hlen', trivial⟩ (fun s5 H5 K5 _ _ => fin s5 H5 K5)
end
noncomputable def Ap : Nat -> List Nat
 | 0 => [97, 46, 111, 114, 103]
 | 1 => [98, 46, 111, 114, 103]
 | 2 => [119, 119, 119, 46, 97, 46, 111, 114, 103]
 | 3 => [120]
 | 4 => [97, 120]
 | _ => []
noncomputable def Bq : Nat -> List Nat
 | 0 => [0, 1, 2]
 | 1 => [0, 1]
 | 2 => [2]
 | 3 => [0, 1]
 | 4 => [1, 2, 3]
 | 5 => [0, 2, 4]
 | 6 => [3]
 | 7 => [4]
 | _ => []
theorem Oe : ∀ k, k < 8 -> ∀ h, h < 5 -> Q9 (Ap h) k = some ((Bq k).contains h) := by decide +kernel
noncomputable def Kc : List Nat := [116, 111, 107, 101, 110, 115]
noncomputable def Og : List Nat := [104, 111, 115, 116]
noncomputable def nK1 : List Nat := [107]
noncomputable def Mj (P : Params) (t1 t2 TL : Nat) (hv : Value) : Obj := A0 [Dz P Kc t1 (.ref TL), Dz P Og t2 hv] 2
noncomputable def Cy (P : Params) (t1 t2 t3 TL : Nat) (hv kv : Value) : Obj := A0 [Dz P Kc t1 (.ref TL), Dz P Og t2 hv, Dz P nK1 t3 kv] 3
noncomputable def I5 (P : Params) : Stmt := B5 (Bl P 871) 0
noncomputable def Un (P : Params) (L : Nat) : Env := D5 P 871 870 L
noncomputable def Cu (P : Params) (L it : Nat) : Code := .forLoop (Fi (I5 P)) (.ref it) (Eb (I5 P)) (L8 (I5 P)) (Un P L)
noncomputable def akX (P : Params) (L it : Nat) (v : Value) : Sem Fin := PySem.W.R.bindR (I6 (Fi (I5 P)) (.ref it) v (Eb (I5 P)) (Un P L)) fun f => .pure (.done f)
section
variable (U : Fl) (N tk : Nat)
noncomputable abbrev Hx6 : Nat := (x2 0x243330303330303300000fef02000000222201)
noncomputable abbrev E4 (TL n th : Nat) (xs : List Value) (host : Str) : Res := Ay 340 U.W [TL] 1 N tk [.u ⟨.int (24) (tk+1576), 2, [0], [], []⟩] [A9 xs n] 98 Hx6 (.call (.ref 871) ⟨[.ref TL, .str host th], []⟩) .base (.pure (.again (.call (.ref 871) ⟨[.ref TL, .str host th], []⟩)))
theorem Rn (TL n th : Nat) (xs : List Value) (host : Str) : Ec 340 U.W [TL] 1 N tk [.u ⟨.int (24) (tk+1576), 2, [0], [], []⟩] [A9 xs n] 98 Hx6 (.call (.ref 871) ⟨[.ref TL, .str host th], []⟩) [0, 1, 3] (.call (Cu U.P (N+884) (N+884+2)) 1) (om [A9 xs n, Mj U.P (tk+1573) (tk+1574) TL (.str host th), Bz 0 24]) 3 6
  [Ac pw U.W (.builtin "len" ⟨[.ref TL], []⟩) (tk+1575) (N+884+1) [(TL, A9 xs n)] [] [] (.int (24) (tk+1576)) 2] := by
 obtain ⟨b, _⟩ := U; cases b <;> kernel_rfl
noncomputable abbrev Xn : Nat := (x2 0x2012fef222001101fef0001000fef2221111)
noncomputable abbrev Gr (L it TL n t1 t2 t3 th kt wt : Nat) (k : Int) (xs : List Value) (host : Str) (pat : Str) (tp : Nat) : Res := Ay 340 U.W [L, TL] 2 N tk [.u ⟨.str ⟨#[109, 97, 99, 104, 105, 110, 101]⟩ wt, 0, [1], [], []⟩, .u ⟨.bool true, 0, [], [], []⟩, .u ⟨.str pat tp, 0, [1], [], []⟩] [Mj U.P t1 t2 TL (.str host th), A9 xs n] 97 Xn (Cu U.P L it) .base (akX U.P L it (.int k kt))
theorem Z1 (L it TL n t1 t2 t3 th kt wt : Nat) (k : Int) (xs : List Value) (host : Str) (pat : Str) (tp : Nat) : Ev 340 U.W [L, TL] 2 N tk [.u ⟨.str y37 wt, 0, [1], [], []⟩, .u ⟨.bool true, 0, [], [], []⟩, .u ⟨.str pat tp, 0, [1], [], []⟩] [Mj U.P t1 t2 TL (.str host th), A9 xs n] 97 Xn (Cu U.P L it) .base (akX U.P L it (.int k kt)) [0, 1] (.call (.call (.ref 864) ⟨[.str pat tp, .str host th], []⟩) 1) (om [Cy U.P t1 t2 (tk+1573) TL (.str host th) (.int k kt), A9 xs n]) 0 7
  [gI U.W TL (k + (1)) (tk+1579) (tk+1580) (N+884) xs n (.str pat tp), Ac pw U.W (.builtin "int.__eq__" ⟨[.int (Int.fmod k (6)) (tk+1576), .int (0) (tk+1577)], []⟩) (tk+1578) (N+884) [] [] [] (.bool true) 0, gI U.W TL k kt (tk+1574) (N+884) xs n (.str ⟨#[109, 97, 99, 104, 105, 110, 101]⟩ wt)] := by
 obtain ⟨b, _⟩ := U; cases b <;> kernel_rfl
theorem Ur (L it TL n t1 t2 t3 th kt wt : Nat) (k : Int) (xs : List Value) (host : Str) (pat : Str) (tp : Nat) (X Y td : Nat) (lw pw : Str) (lt pt : Nat) : Es 340 U.W [L, TL] 2 X Y [] [Cy U.P t1 t2 td TL (.str host th) (.int k kt), A9 xs n] 42 0x0 (Gr U N tk L it TL n t1 t2 t3 th kt wt k xs host pat tp).c (Gr U N tk L it TL n t1 t2 t3 th kt wt k xs host pat tp).κ (Cb (Gr U N tk L it TL n t1 t2 t3 th kt wt k xs host pat tp).t (.ok (.ret (.bool false)))) [0, 1] (.fin .next) 0 0
  [] := by
 obtain ⟨b, _⟩ := U; cases b <;> kernel_rfl
theorem Aao (L it TL n t1 t2 t3 th kt wt : Nat) (k : Int) (xs : List Value) (host : Str) (kv : Value) (wd : Str) : Ev 340 U.W [L, TL] 2 N tk [.u ⟨.str wd wt, 0, [1], [], []⟩] [Cy U.P t1 t2 t3 TL (.str host th) kv, A9 xs n] 62 (x2 0x400fef2221111) (Cu U.P L it) .base (akX U.P L it (.int k kt)) [0, 1] (.fin .next) (om [Cy U.P t1 t2 t3 TL (.str host th) (.int k kt), A9 xs n]) 0 2
  [Bo wd ⟨#[109, 97, 99, 104, 105, 110, 101]⟩ = false, gI U.W TL k kt (tk+1574) (N+884) xs n (.str wd wt)] := by
 obtain ⟨b, _⟩ := U; cases b <;> kernel_rfl
noncomputable abbrev Gq (L it TL n t1 t2 t3 th kt wt : Nat) (k : Int) (xs : List Value) (host : Str) (kv : Value) (pat : Str) (tp : Nat) : Res := Ay 340 U.W [L, TL] 2 N tk [.u ⟨.str ⟨#[109, 97, 99, 104, 105, 110, 101]⟩ wt, 0, [1], [], []⟩, .u ⟨.bool true, 0, [], [], []⟩, .u ⟨.str pat tp, 0, [1], [], []⟩] [Cy U.P t1 t2 t3 TL (.str host th) kv, A9 xs n] 97 Xn (Cu U.P L it) .base (akX U.P L it (.int k kt))
theorem Xa (L it TL n t1 t2 t3 th kt wt : Nat) (k : Int) (xs : List Value) (host : Str) (kv : Value) (pat : Str) (tp : Nat) : Ev 340 U.W [L, TL] 2 N tk [.u ⟨.str y37 wt, 0, [1], [], []⟩, .u ⟨.bool true, 0, [], [], []⟩, .u ⟨.str pat tp, 0, [1], [], []⟩] [Cy U.P t1 t2 t3 TL (.str host th) kv, A9 xs n] 97 Xn (Cu U.P L it) .base (akX U.P L it (.int k kt)) [0, 1] (.call (.call (.ref 864) ⟨[.str pat tp, .str host th], []⟩) 1) (om [Cy U.P t1 t2 t3 TL (.str host th) (.int k kt), A9 xs n]) 0 7
  [gI U.W TL (k + (1)) (tk+1579) (tk+1580) (N+884) xs n (.str pat tp), Ac pw U.W (.builtin "int.__eq__" ⟨[.int (Int.fmod k (6)) (tk+1576), .int (0) (tk+1577)], []⟩) (tk+1578) (N+884) [] [] [] (.bool true) 0, gI U.W TL k kt (tk+1574) (N+884) xs n (.str ⟨#[109, 97, 99, 104, 105, 110, 101]⟩ wt)] := by
 obtain ⟨b, _⟩ := U; cases b <;> kernel_rfl
theorem T9 (L it TL n t1 t2 t3 th kt wt : Nat) (k : Int) (xs : List Value) (host : Str) (kv : Value) (pat : Str) (tp : Nat) (X Y td : Nat) (lw pw : Str) (lt pt : Nat) : Es 340 U.W [L, TL] 2 X Y [] [Cy U.P t1 t2 td TL (.str host th) (.int k kt), A9 xs n] 42 0x0 (Gq U N tk L it TL n t1 t2 t3 th kt wt k xs host kv pat tp).c (Gq U N tk L it TL n t1 t2 t3 th kt wt k xs host kv pat tp).κ (Cb (Gq U N tk L it TL n t1 t2 t3 th kt wt k xs host kv pat tp).t (.ok (.ret (.bool false)))) [0, 1] (.fin .next) 0 0
  [] := by
 obtain ⟨b, _⟩ := U; cases b <;> kernel_rfl
theorem S4 (TL n th : Nat) (xs : List Value) (host : Str) (X Y t1 t2 t3 dt lt pt : Nat) (kv : Value) (dw lw pw : Str) : Es 340 U.W [(N+884), TL] 2 X Y [.u ⟨.str dw dt, 0, [1], [], []⟩] [Cy U.P t1 t2 t3 TL (.str host th) kv, A9 xs n] 60 (x2 0x400fef222001) (E4 U N tk TL n th xs host).c (E4 U N tk TL n th xs host).κ (Cb (E4 U N tk TL n th xs host).t (.ok .next)) [0, 1] (.fin (.ret .none)) 0 3
  [Bo dw ⟨#[100, 101, 102, 97, 117, 108, 116]⟩ = false, gI U.W TL (-5) (Y+1574) (Y+1575) (X+884) xs n (.str dw dt)] := by
 obtain ⟨b, _⟩ := U; cases b <;> kernel_rfl
theorem W6 (L it TL n t1 t2 t3 th kt wt : Nat) (k : Int) (xs : List Value) (host : Str) (kv : Value) (pat : Str) (tp : Nat) (X Y td : Nat) (lw pw : Str) (lt pt : Nat) : Ev 340 U.W [L, TL] 2 X Y [.u ⟨.str lw lt, 0, [1], [], []⟩, .u ⟨.str pw pt, 0, [1], [], []⟩] [Cy U.P t1 t2 td TL (.str host th) (.int k kt), A9 xs n] 75 (x2 0x1fef22200110fef2220011) (Gq U N tk L it TL n t1 t2 t3 th kt wt k xs host kv pat tp).c (Gq U N tk L it TL n t1 t2 t3 th kt wt k xs host kv pat tp).κ (Cb (Gq U N tk L it TL n t1 t2 t3 th kt wt k xs host kv pat tp).t (.ok (.ret (.bool true)))) [0, 1, 2] (.fin (.ret (.ref (X+884+0)))) (om [Cy U.P t1 t2 td TL (.str host th) (.int k kt), A9 xs n, (zt [.str lw lt, .str pw pt])]) 1 4
  [gI U.W TL (k + (5)) (Y+1576) (Y+1577) (X+884) xs n (.str pw pt), gI U.W TL (k + (3)) (Y+1574) (Y+1575) (X+884) xs n (.str lw lt)] := by
 obtain ⟨b, _⟩ := U; cases b <;> kernel_rfl
noncomputable abbrev E6 (TL n th : Nat) (xs : List Value) (host : Str) : Res := Ay 340 U.W [TL] 1 N tk [.u ⟨.int (35) (tk+1576), 2, [0], [], []⟩] [A9 xs n] 98 Hx6 (.call (.ref 871) ⟨[.ref TL, .str host th], []⟩) .base (.pure (.again (.call (.ref 871) ⟨[.ref TL, .str host th], []⟩)))
theorem Sg (TL n th : Nat) (xs : List Value) (host : Str) : Ec 340 U.W [TL] 1 N tk [.u ⟨.int (35) (tk+1576), 2, [0], [], []⟩] [A9 xs n] 98 Hx6 (.call (.ref 871) ⟨[.ref TL, .str host th], []⟩) [0, 1, 3] (.call (Cu U.P (N+884) (N+884+2)) 1) (om [A9 xs n, Mj U.P (tk+1573) (tk+1574) TL (.str host th), Bz 0 35]) 3 6
  [Ac pw U.W (.builtin "len" ⟨[.ref TL], []⟩) (tk+1575) (N+884+1) [(TL, A9 xs n)] [] [] (.int (35) (tk+1576)) 2] := by
 obtain ⟨b, _⟩ := U; cases b <;> kernel_rfl
theorem Te (L it TL n t1 t2 t3 th kt wt : Nat) (k : Int) (xs : List Value) (host : Str) (pat : Str) (tp : Nat) (X Y td : Nat) (lw pw : Str) (lt pt : Nat) : Ev 340 U.W [L, TL] 2 X Y [.u ⟨.str lw lt, 0, [1], [], []⟩, .u ⟨.str pw pt, 0, [1], [], []⟩] [Cy U.P t1 t2 td TL (.str host th) (.int k kt), A9 xs n] 75 (x2 0x1fef22200110fef2220011) (Gr U N tk L it TL n t1 t2 t3 th kt wt k xs host pat tp).c (Gr U N tk L it TL n t1 t2 t3 th kt wt k xs host pat tp).κ (Cb (Gr U N tk L it TL n t1 t2 t3 th kt wt k xs host pat tp).t (.ok (.ret (.bool true)))) [0, 1, 2] (.fin (.ret (.ref (X+884+0)))) (om [Cy U.P t1 t2 td TL (.str host th) (.int k kt), A9 xs n, (zt [.str lw lt, .str pw pt])]) 1 4
  [gI U.W TL (k + (5)) (Y+1576) (Y+1577) (X+884) xs n (.str pw pt), gI U.W TL (k + (3)) (Y+1574) (Y+1575) (X+884) xs n (.str lw lt)] := by
 obtain ⟨b, _⟩ := U; cases b <;> kernel_rfl
noncomputable abbrev E3 (TL n th : Nat) (xs : List Value) (host : Str) : Res := Ay 340 U.W [TL] 1 N tk [.u ⟨.int (12) (tk+1576), 2, [0], [], []⟩] [A9 xs n] 98 Hx6 (.call (.ref 871) ⟨[.ref TL, .str host th], []⟩) .base (.pure (.again (.call (.ref 871) ⟨[.ref TL, .str host th], []⟩)))
theorem S3 (TL n th : Nat) (xs : List Value) (host : Str) : Ec 340 U.W [TL] 1 N tk [.u ⟨.int (12) (tk+1576), 2, [0], [], []⟩] [A9 xs n] 98 Hx6 (.call (.ref 871) ⟨[.ref TL, .str host th], []⟩) [0, 1, 3] (.call (Cu U.P (N+884) (N+884+2)) 1) (om [A9 xs n, Mj U.P (tk+1573) (tk+1574) TL (.str host th), Bz 0 12]) 3 6
  [Ac pw U.W (.builtin "len" ⟨[.ref TL], []⟩) (tk+1575) (N+884+1) [(TL, A9 xs n)] [] [] (.int (12) (tk+1576)) 2] := by
 obtain ⟨b, _⟩ := U; cases b <;> kernel_rfl
theorem Sf (TL n th : Nat) (xs : List Value) (host : Str) (X Y t1 t2 t3 dt lt pt : Nat) (kv : Value) (dw lw pw : Str) : Ev 340 U.W [(N+884), TL] 2 X Y [.u ⟨.str y63 dt, 0, [1], [], []⟩, .u ⟨.str lw lt, 0, [1], [], []⟩, .u ⟨.str pw pt, 0, [1], [], []⟩] [Cy U.P t1 t2 t3 TL (.str host th) kv, A9 xs n] 89 (x2 0x2fef2220011fef222001000fef222001) (E6 U N tk TL n th xs host).c (E6 U N tk TL n th xs host).κ (Cb (E6 U N tk TL n th xs host).t (.ok .next)) [0, 1, 2] (.fin (.ret (.ref (X+884+0)))) (om [Cy U.P t1 t2 t3 TL (.str host th) kv, A9 xs n, (zt [.str lw lt, .str pw pt])]) 1 7
  [gI U.W TL (-1) (Y+1579) (Y+1580) (X+884) xs n (.str pw pt), gI U.W TL (-3) (Y+1577) (Y+1578) (X+884) xs n (.str lw lt), gI U.W TL (-5) (Y+1574) (Y+1575) (X+884) xs n (.str ⟨#[100, 101, 102, 97, 117, 108, 116]⟩ dt)] := by
 obtain ⟨b, _⟩ := U; cases b <;> kernel_rfl
noncomputable abbrev E8 (TL n th : Nat) (xs : List Value) (host : Str) : Res := Ay 340 U.W [TL] 1 N tk [.u ⟨.int (23) (tk+1576), 2, [0], [], []⟩] [A9 xs n] 98 Hx6 (.call (.ref 871) ⟨[.ref TL, .str host th], []⟩) .base (.pure (.again (.call (.ref 871) ⟨[.ref TL, .str host th], []⟩)))
theorem Su (TL n th : Nat) (xs : List Value) (host : Str) : Ec 340 U.W [TL] 1 N tk [.u ⟨.int (23) (tk+1576), 2, [0], [], []⟩] [A9 xs n] 98 Hx6 (.call (.ref 871) ⟨[.ref TL, .str host th], []⟩) [0, 1, 3] (.call (Cu U.P (N+884) (N+884+2)) 1) (om [A9 xs n, Mj U.P (tk+1573) (tk+1574) TL (.str host th), Bz 0 23]) 3 6
  [Ac pw U.W (.builtin "len" ⟨[.ref TL], []⟩) (tk+1575) (N+884+1) [(TL, A9 xs n)] [] [] (.int (23) (tk+1576)) 2] := by
 obtain ⟨b, _⟩ := U; cases b <;> kernel_rfl
theorem Sr (TL n th : Nat) (xs : List Value) (host : Str) (X Y t1 t2 t3 dt lt pt : Nat) (kv : Value) (dw lw pw : Str) : Ev 340 U.W [(N+884), TL] 2 X Y [.u ⟨.str y63 dt, 0, [1], [], []⟩, .u ⟨.str lw lt, 0, [1], [], []⟩, .u ⟨.str pw pt, 0, [1], [], []⟩] [Cy U.P t1 t2 t3 TL (.str host th) kv, A9 xs n] 89 (x2 0x2fef2220011fef222001000fef222001) (E8 U N tk TL n th xs host).c (E8 U N tk TL n th xs host).κ (Cb (E8 U N tk TL n th xs host).t (.ok .next)) [0, 1, 2] (.fin (.ret (.ref (X+884+0)))) (om [Cy U.P t1 t2 t3 TL (.str host th) kv, A9 xs n, (zt [.str lw lt, .str pw pt])]) 1 7
  [gI U.W TL (-1) (Y+1579) (Y+1580) (X+884) xs n (.str pw pt), gI U.W TL (-3) (Y+1577) (Y+1578) (X+884) xs n (.str lw lt), gI U.W TL (-5) (Y+1574) (Y+1575) (X+884) xs n (.str ⟨#[100, 101, 102, 97, 117, 108, 116]⟩ dt)] := by
 obtain ⟨b, _⟩ := U; cases b <;> kernel_rfl
theorem Sh (TL n th : Nat) (xs : List Value) (host : Str) (X Y t1 t2 t3 dt lt pt : Nat) (kv : Value) (dw lw pw : Str) : Es 340 U.W [(N+884), TL] 2 X Y [.u ⟨.str dw dt, 0, [1], [], []⟩] [Cy U.P t1 t2 t3 TL (.str host th) kv, A9 xs n] 60 (x2 0x400fef222001) (E3 U N tk TL n th xs host).c (E3 U N tk TL n th xs host).κ (Cb (E3 U N tk TL n th xs host).t (.ok .next)) [0, 1] (.fin (.ret .none)) 0 3
  [Bo dw ⟨#[100, 101, 102, 97, 117, 108, 116]⟩ = false, gI U.W TL (-5) (Y+1574) (Y+1575) (X+884) xs n (.str dw dt)] := by
 obtain ⟨b, _⟩ := U; cases b <;> kernel_rfl
theorem So (TL n th : Nat) (xs : List Value) (host : Str) (X Y : Nat) (v : Value) : Ev 340 U.W [] 0 X Y [] [] 40 0x0 (E3 U N tk TL n th xs host).c (E3 U N tk TL n th xs host).κ (Cb (E3 U N tk TL n th xs host).t (.ok (.ret v))) [] (.fin (.ret v)) (om []) 0 0
  [] := by
 obtain ⟨b, _⟩ := U; cases b <;> kernel_rfl
theorem Sk (TL n th : Nat) (xs : List Value) (host : Str) (X Y : Nat) (v : Value) : Ev 340 U.W [] 0 X Y [] [] 40 0x0 (E8 U N tk TL n th xs host).c (E8 U N tk TL n th xs host).κ (Cb (E8 U N tk TL n th xs host).t (.ok (.ret v))) [] (.fin (.ret v)) (om []) 0 0
  [] := by
 obtain ⟨b, _⟩ := U; cases b <;> kernel_rfl
theorem Rl (TL n th : Nat) (xs : List Value) (host : Str) (X Y : Nat) (v : Value) : Ev 340 U.W [] 0 X Y [] [] 40 0x0 (E4 U N tk TL n th xs host).c (E4 U N tk TL n th xs host).κ (Cb (E4 U N tk TL n th xs host).t (.ok (.ret v))) [] (.fin (.ret v)) (om []) 0 0
  [] := by
 obtain ⟨b, _⟩ := U; cases b <;> kernel_rfl
theorem Se (TL n th : Nat) (xs : List Value) (host : Str) (X Y : Nat) (v : Value) : Ev 340 U.W [] 0 X Y [] [] 40 0x0 (E6 U N tk TL n th xs host).c (E6 U N tk TL n th xs host).κ (Cb (E6 U N tk TL n th xs host).t (.ok (.ret v))) [] (.fin (.ret v)) (om []) 0 0
  [] := by
 obtain ⟨b, _⟩ := U; cases b <;> kernel_rfl
end
end Mine
section
open PySem.Builtin.List
namespace Mine
theorem Cp {w : World} {a tok sz : Nat} {xs : List Value} {v : Value} {n j : Nat} {u : Nat} {i : Int} (hi : i = Int.negSucc j) (hj : j < xs.length) (hf : j <= 1000) (hx : xs[xs.length - 1 - j]? = some v) :
  Ac pw w (.call (.builtin "list.__getitem__") ⟨[.ref a, .int i u], []⟩) tok sz [(a, A9 xs n)] [] [] v 0 := by
 intro A s R hA hD hg ht hn hrd hR
 have hl := hrd.1
 dsimp only at hl
 have hT : s.TypeIs (.ref a) "list" := ⟨_, hl, rfl⟩
 refine codeAny_call_builtin _root_.PySem.slot_list_getitem.plain _root_.PySem.entry_list_getitem (_root_.PySem.slot_list_getitem.check _ _ _ _ _ _ _ _ hT (_root_.PySem.args_list_getitem _ _) ?_)
 show wpAny _ _ (listSubscript? (.int i u) >>= _) _ _ s
 refine wpAny_bind (wpAny_listSubscript_int (by rw [hi]; unfold listFitsIndex; simp; lia) ?_)
 subst hi
 show wpAny _ _ ((listItems (.ref a) >>= fun xs => pure ((seqIndex? (Int.negSucc j) xs.size).bind fun i => xs[i]?.map (i, ·))) >>= _) _ _ s
 refine wpAny_bind (wpAny_bind ?_)
 show wpAny _ _ (seqItems? (.ref a) >>= _) _ _ s
 refine wpAny_bind (wpAny_seqItems hl rfl (wpAny_pure (wpAny_pure ?_)))
 have hidx : seqIndex? (Int.negSucc j) (Array.mk xs).size = some (xs.length - 1 - j) := by
  unfold seqIndex?
  simp only [List.size_toArray]
  have e : Int.negSucc j + (xs.length : Int) = ((xs.length - 1 - j : Nat) : Int) := by lia
  simp [e]
  lia
 rw [hidx]
 have hx' : (Array.mk xs)[xs.length - 1 - j]? = some v := by simpa using hx
 simp only [Option.bind_some, hx', Option.map_some]
 subst ht
 first
  | exact wpAny_bind (wpAny_pure (wpAny_pure hR))
  | exact wpAny_pure hR
theorem Os {u : List Nat} (h : u ≠ Ax) : Bo (S8 u) ⟨#[109, 97, 99, 104, 105, 110, 101]⟩ = false := by
 unfold Bo
 simpa [S8, Ax] using h
noncomputable def Jt (h : Nat) : List Ent -> Option (List Nat × List Nat)
 | [] => none
 | e :: l => if (Bq e.k).contains h then some ([e.c1, e.c2], [e.c3, e.c4]) else Jt h l
noncomputable def Hy (v : Value) (T : List (Nat × Obj)) : Option (List Nat × List Nat) -> Prop
 | none => v = .none /\ T = []
 | some p => ∃ t ta tb, v = .ref t /\ T = [(t, Ek [.str (S8 p.1) ta, .str (S8 p.2) tb])]
theorem Gk {α : Type} {W : List α} {k j : Nat} {r : List α} (h : W.drop k = r) : W[k + j]? = r[j]? := by
 rw [<- h, List.getElem?_drop]
section
variable {U : Fl}
theorem Yr : L8 (I5 U.P) = [] := by kernel_rfl
theorem Mt {L it TL n t1 t2 th : Nat} {host : Str} {xs : List Value} {W : List (List Nat)} {F : List (Nat × Obj)} (hW : StrsAre xs (W.map S8)) (hlen : W.length <= 900) (hA : A.handled = none) (hD : A.depth <= 335) : ∀ (ws rest : List (List Nat)) (k t3 : Nat) (kv : Value) (s : Shared),
  W.drop k = ws ++ rest -> (∀ u ∈ ws, u ≠ Ax) ->
  At U.W s ((it, Bz k ((ws ++ rest).length : Nat)) :: (L, Cy U.P t1 t2 t3 TL (.str host th) kv) :: (TL, A9 xs n) :: F) ->
  (∀ s' t3' kv', At U.W s' ((it, Bz (k + ws.length : Nat) (rest.length : Nat)) :: (L, Cy U.P t1 t2 t3' TL (.str host th) kv') :: (TL, A9 xs n) :: F) -> Keeps [it, L, TL] s s' -> codeAny (Ak U.W) A (Cu U.P L it) R s') ->
  codeAny (Ak U.W) A (Cu U.P L it) R s
 | [], rest, k, t3, kv, s, hd, hm, H, cont => cont s t3 kv H (Keeps.refl _ _)
 | u :: ws, rest, k, t3, kv, s, hd, hm, H, cont => by
  have hu : W[k]? = some u := by have := Gk (j := 0) hd; simpa using this
  have hlt : k < W.length := (List.getElem?_eq_some_iff.mp hu).1
  have hd' : W.drop (k + 1) = ws ++ rest := by
   have h := List.drop_eq_getElem_cons hlt
   rw [hd] at h
   exact (List.cons.inj h).2.symm
  obtain ⟨wt, hx⟩ : ∃ wt, xs[k]? = some (.str (S8 u) wt) := Bt hW (by rw [List.getElem?_map, hu]; rfl)
  unfold Cu
  refine Fb ?_
  refine Jx (by simp; lia) H ?_
  intro s1 H1 K1 hT1k
  have H1a : At U.W s1 ([(L, Cy U.P t1 t2 t3 TL (.str host th) kv), (TL, A9 xs n)] ++ ((it, Bz (k + 1 : Nat) ((ws ++ rest).length : Nat)) :: F)) := by
   have e : (((u :: ws) ++ rest).length : Int) - 1 = ((ws ++ rest).length : Int) := by simp
   rw [e] at H1
   exact H1.up2.up2
  generalize s.toks = kt
  obtain ⟨N, tk, hN, hTk⟩ := H1a.NT
  refine Bj (Au (olds := [L, TL]) (Aao U N tk L it TL n t1 t2 t3 th kt wt (k : Int) xs host kv (S8 u)) hA (dl hD) H1a rfl rfl rfl rfl hN hTk ⟨Os (hm u (.head _)), Ag (by lia) (by lia) (by simpa using hx), trivial⟩ ?_)
  intro s2 H2 K2 _ _
  refine Mt hW hlen hA hD ws rest (k + 1) t3 _ s2 hd' (fun q hq => hm q (.tail _ hq)) (At.up2 H2) ?_
  intro s' t3' kv' H' K'
  refine cont s' t3' kv' (by have e : k + (u :: ws).length = k + 1 + ws.length := (by simp; lia); rw [e]; exact H') ((K1.mono ?_).trans ((K2.mono ?_).trans K'))
  ·intro y hy; simp at hy; simp [hy]
  ·intro y hy; simp at hy; rcases hy with h | h <;> simp [h]
theorem Ac7 {e : Ent} (hk : e.k < 8) : As e.k ≠ Ax := by
 have : ∀ k, k < 8 -> As k ≠ Ax := by decide
 exact this _ hk
theorem Wi {e : Ent} (hk : e.k < 8) : ∀ u ∈ [As e.k, C8, [e.c1, e.c2], B7, [e.c3, e.c4]], u ≠ Ax := by
 intro u hu
 simp only [List.mem_cons, List.not_mem_nil, or_false] at hu
 rcases hu with rfl | rfl | rfl | rfl | rfl
 ·exact Ac7 hk
 ·decide
 ·simp [Ax]
 ·decide
 ·simp [Ax]
theorem Abr {L it TL n t1 t2 th h : Nat} {xs : List Value} {W tail : List (List Nat)} {F : List (Nat × Obj)} (hh : h < 5) (hW : StrsAre xs (W.map S8)) (hlen : W.length <= 900) (htail : ∀ u ∈ tail, u ≠ Ax) (hA : A.handled = none) (hD : A.depth <= 315) (hU : A.units <= 8800) : ∀ (rem : List Ent) (j : Nat) (fr tb : Obj) (s : Shared),
  W.drop (6 * j) = rem.flatMap Az ++ tail -> (∀ e ∈ rem, e.k < 8) -> (fr = Mj U.P t1 t2 TL (.str (S8 (Ap h)) th) /\ rem ≠ [] \/ ∃ t3 kv, fr = Cy U.P t1 t2 t3 TL (.str (S8 (Ap h)) th) kv) -> Du tb ->
  At U.W s ((it, Bz (6 * j : Nat) ((rem.flatMap Az ++ tail).length : Nat)) :: (L, fr) :: (TL, A9 xs n) :: (105, tb) :: F) ->
  (∀ s' v T tb' o' fr' p, Jt h rem = some p -> Hy v T (some p) -> Du tb' -> At U.W s' (T ++ ((it, o') :: (L, fr') :: (TL, A9 xs n) :: (105, tb') :: F)) -> Keeps [105, it, L, TL] s s' -> R (.ok (.ret v)) s') ->
  (∀ s' tb' o' t3 kv, Jt h rem = none -> Du tb' -> At U.W s' ((it, o') :: (L, Cy U.P t1 t2 t3 TL (.str (S8 (Ap h)) th) kv) :: (TL, A9 xs n) :: (105, tb') :: F) -> Keeps [105, it, L, TL] s s' -> R (.ok .next) s') ->
  codeAny (Ak U.W) A (Cu U.P L it) R s
 | [], j, fr, tb, s, hd, hk, hfr, htb, H, cont1, cont2 => by
  rcases hfr with ⟨_, h0⟩ | ⟨t3, kv, rfl⟩
  ·exact absurd rfl h0
  refine Mt (F := (105, tb) :: F) hW hlen hA (dl hD) tail [] (6 * j) t3 kv s (by simpa using hd) htail (by simpa using H) ?_
  intro s1 t3' kv' H1 K1
  unfold Cu
  refine Fb ?_
  refine Q2 hA (by simp) H1 ?_
  intro s2 H2 K2 _
  rw [Yr]
  refine Cc (cont2 s2 tb _ t3' kv' rfl htb H2 ((K1.mono ?_).trans (K2.mono ?_)))
  ·intro y hy; simp at hy; rcases hy with h | h | h <;> simp [h]
  ·intro y hy; simp at hy; simp [hy]
 | e :: rem, j, fr, tb, s, hd, hk, hfr, htb, H, cont1, cont2 => by
  have hd1 : W.drop (6 * j) = Ax :: As e.k :: C8 :: [e.c1, e.c2] :: B7 :: [e.c3, e.c4] :: (rem.flatMap Az ++ tail) := by rw [hd]; rfl
  have g0 : W[6 * j]? = some Ax := Gk (j := 0) hd1
  have g1 : W[6 * j + 1]? = some (As e.k) := Gk (j := 1) hd1
  have g3 : W[6 * j + 3]? = some [e.c1, e.c2] := Gk (j := 3) hd1
  have g5 : W[6 * j + 5]? = some [e.c3, e.c4] := Gk (j := 5) hd1
  have hlt : 6 * j + 5 < W.length := (List.getElem?_eq_some_iff.mp g5).1
  obtain ⟨wt, hx0⟩ : ∃ wt, xs[6 * j]? = some (.str (S8 Ax) wt) := Bt hW (by rw [List.getElem?_map, g0]; rfl)
  obtain ⟨tp, hx1⟩ : ∃ wt, xs[6 * j + 1]? = some (.str (S8 (As e.k)) wt) := Bt hW (by rw [List.getElem?_map, g1]; rfl)
  obtain ⟨lt, hx3⟩ : ∃ wt, xs[6 * j + 3]? = some (.str (S8 [e.c1, e.c2]) wt) := Bt hW (by rw [List.getElem?_map, g3]; rfl)
  obtain ⟨pt, hx5⟩ : ∃ wt, xs[6 * j + 5]? = some (.str (S8 [e.c3, e.c4]) wt) := Bt hW (by rw [List.getElem?_map, g5]; rfl)
  have hek := hk e (.head _)
  have hh100 : (Ap h).length <= 100 := by
   have : ∀ h, h < 5 -> (Ap h).length <= 100 := by decide
   exact this h hh
  have hmod : (Int.fmod ((6 * j : Nat) : Int) 6 == 0) = true := by
   rw [Int.fmod_eq_emod_of_nonneg _ (by lia)]
   simp
  have hd2 : W.drop (6 * j + 1) = [As e.k, C8, [e.c1, e.c2], B7, [e.c3, e.c4]] ++ (rem.flatMap Az ++ tail) := by
   have h := List.drop_eq_getElem_cons (show 6 * j < W.length by lia)
   rw [hd1] at h
   exact (List.cons.inj h).2.symm
  have hd3 : W.drop (6 * (j + 1)) = rem.flatMap Az ++ tail := by
   have e6 : 6 * (j + 1) = 6 * j + 6 := by lia
   rw [e6, <- List.drop_drop, hd1]
   rfl
  unfold Cu
  refine Fb ?_
  refine Jx (by simp [Az]; lia) H ?_
  intro s1 H1 K1 hT1k
  have H1a : At U.W s1 ([(L, fr), (TL, A9 xs n)] ++ ((it, Bz (6 * j + 1 : Nat) (([As e.k, C8, [e.c1, e.c2], B7, [e.c3, e.c4]] ++ (rem.flatMap Az ++ tail)).length : Nat)) :: (105, tb) :: F)) := by
   have e9 : (((e :: rem).flatMap Az ++ tail).length : Int) - 1 = (([As e.k, C8, [e.c1, e.c2], B7, [e.c3, e.c4]] ++ (rem.flatMap Az ++ tail)).length : Int) := by simp [Az]
   rw [e9] at H1
   exact H1.up2.up2
  generalize s.toks = kt
  obtain ⟨N, tk, hN, hTk⟩ := H1a.NT
  have ob : ∀ {ta tb2 tc td : Nat}, Iv [Ac pw U.W (.call (.builtin "list.__getitem__") ⟨[.ref TL, .int (((6 * j : Nat) : Int) + (1)) (tk+1579)], []⟩) (tk+1580) (N+884) [(TL, A9 xs n)] [] [] (.str (S8 (As e.k)) tp) 0, Ac pw U.W (.builtin "int.__eq__" ⟨[.int (Int.fmod ((6 * j : Nat) : Int) (6)) (tk+1576), .int (0) (tk+1577)], []⟩) (tk+1578) (N+884) [] [] [] (.bool true) 0, gI U.W TL ((6 * j : Nat) : Int) kt (tk+1574) (N+884) xs n (.str ⟨#[109, 97, 99, 104, 105, 110, 101]⟩ wt)] := fun {_ _ _ _} =>
   ⟨Ag (by lia) (by lia) (by rw [show (((6 * j : Nat) : Int) + 1).toNat = 6 * j + 1 from by lia]; exact hx1), Ix hmod, Ag (by lia) (by lia) (by rw [show (((6 * j : Nat) : Int)).toNat = 6 * j from by lia]; exact hx0), trivial⟩
  have go : ∀ (c : Code) (κ : Kn) (t : Sem Fin) (s2 : Shared) (t3 : Nat),
    At U.W s2 ([(L, Cy U.P t1 t2 t3 TL (.str (S8 (Ap h)) th) (.int ((6 * j : Nat) : Int) kt)), (TL, A9 xs n)] ++ ((it, Bz (6 * j + 1 : Nat) (([As e.k, C8, [e.c1, e.c2], B7, [e.c3, e.c4]] ++ (rem.flatMap Az ++ tail)).length : Nat)) :: (105, tb) :: F)) -> Keeps [L, TL] s1 s2 ->
    (∀ (s3 : Shared) (tb' : Obj) (M K : Nat), s3.heap.objs.size = M + 884 -> s3.toks = K + 1573 -> Du tb' -> At U.W s3 ([(L, Cy U.P t1 t2 t3 TL (.str (S8 (Ap h)) th) (.int ((6 * j : Nat) : Int) kt)), (TL, A9 xs n)] ++ ((it, Bz (6 * j + 1 : Nat) (([As e.k, C8, [e.c1, e.c2], B7, [e.c3, e.c4]] ++ (rem.flatMap Az ++ tail)).length : Nat)) :: (105, tb') :: F)) -> Keeps [105] s2 s3 ->
     (∀ Q, (∀ s4, At U.W s4 ([(L, Cy U.P t1 t2 t3 TL (.str (S8 (Ap h)) th) (.int ((6 * j : Nat) : Int) kt)), (TL, A9 xs n)] ++ ((it, Bz (6 * j + 1 : Nat) (([As e.k, C8, [e.c1, e.c2], B7, [e.c3, e.c4]] ++ (rem.flatMap Az ++ tail)).length : Nat)) :: (105, tb') :: F)) -> Keeps [L, TL] s3 s4 -> Q .next s4) -> MK U.W A (RF Q) c κ (Cb t (.ok (.ret (.bool false)))) s3) /\
     (∀ Q, (∀ s4, At U.W s4 ((M+884, Ek [.str (S8 [e.c1, e.c2]) lt, .str (S8 [e.c3, e.c4]) pt]) :: ([(L, Cy U.P t1 t2 t3 TL (.str (S8 (Ap h)) th) (.int ((6 * j : Nat) : Int) kt)), (TL, A9 xs n)] ++ ((it, Bz (6 * j + 1 : Nat) (([As e.k, C8, [e.c1, e.c2], B7, [e.c3, e.c4]] ++ (rem.flatMap Az ++ tail)).length : Nat)) :: (105, tb') :: F))) -> Keeps [L, TL] s3 s4 -> Q (.ret (.ref (M+884))) s4) -> MK U.W A (RF Q) c κ (Cb t (.ok (.ret (.bool true)))) s3)) ->
    ∀ A' : Around, A'.handled = none -> A'.depth <= A.depth + 1 -> A'.units <= A.units + 10 * 1 ->
    codeAny (Ak U.W) A' (.call (.ref 864) ⟨[.str (S8 (As e.k)) tp, .str (S8 (Ap h)) th], []⟩) (fun r s'' => MK U.W A (RF (fun f s3 => match f with
      | .next | .cont => codeAny (Ak U.W) A (.forLoop (Fi (I5 U.P)) (.ref it) (Eb (I5 U.P)) (L8 (I5 U.P)) (Un U.P L)) R s3
      | .brk => R (.ok .next) s3
      | .ret v => R (.ok (.ret v)) s3)) c κ (Cb t r) s'') s2 := by
   intro c κ t s2 t3 H2 K2 res A' hA' hD' hU'
   refine Uh hek hh100 (Oe e.k hek h hh) htb hA' (Dv hD' hD) (by lia) (At.up3 H2) ?_
   intro s3 tb' htb' H3 K3
   have H3a : At U.W s3 ((105, tb') :: (L, Cy U.P t1 t2 t3 TL (.str (S8 (Ap h)) th) (.int ((6 * j : Nat) : Int) kt)) :: (TL, A9 xs n) :: (it, Bz (6 * j + 1 : Nat) (([As e.k, C8, [e.c1, e.c2], B7, [e.c3, e.c4]] ++ (rem.flatMap Az ++ tail)).length : Nat)) :: F) := H3
   obtain ⟨M, K, hM, hK⟩ := H3.NT
   have kk : Keeps [105, it, L, TL] s s3 := (K1.mono (by intro y hy; simp at hy; simp [hy])).trans ((K2.mono (by intro y hy; simp at hy; rcases hy with h | h <;> simp [h])).trans (K3.mono (by intro y hy; simp at hy; simp [hy])))
   obtain ⟨rf, rt⟩ := res s3 tb' M K hM hK htb' H3a.up3.up3.up3 K3
   by_cases hst : (Bq e.k).contains h = true
   ·rw [hst]
    refine rt _ ?_
    intro s4 H4 K4
    refine cont1 s4 (.ref (M+884)) [_] tb' _ _ ([e.c1, e.c2], [e.c3, e.c4]) (by unfold Jt; rw [if_pos hst]) ⟨M+884, lt, pt, rfl, rfl⟩ htb' (At.up3 H4 |>.up1) (kk.trans (K4.mono ?_))
    intro y hy; simp at hy; rcases hy with h | h <;> simp [h]
   ·have hst' : (Bq e.k).contains h = false := by simpa using hst
    rw [hst']
    refine rf _ ?_
    intro s4 H4 K4
    refine Mt (F := (105, tb') :: F) hW hlen hA (dl hD) _ _ (6 * j + 1) t3 (.int ((6 * j : Nat) : Int) kt) s4 hd2 (Wi hek) (At.up2 H4) ?_
    intro s5 t3' kv' H5 K5
    refine Abr hh hW hlen htail hA hD hU rem (j + 1) _ tb' s5 hd3 (fun q hq => hk q (.tail _ hq)) (.inr ⟨t3', kv', rfl⟩) htb' (by
     have e6 : 6 * j + 1 + [As e.k, C8, [e.c1, e.c2], B7, [e.c3, e.c4]].length = 6 * (j + 1) := by simp; lia
     rw [e6] at H5
     exact H5) ?_ ?_
    ·intro s' v T tb2 o' fr' p hp hv ht H' K'
     refine cont1 s' v T tb2 o' fr' p (by unfold Jt; rw [if_neg hst]; exact hp) hv ht H' (kk.trans ((K4.mono ?_).trans ((K5.mono ?_).trans K')))
     ·intro y hy; simp at hy; rcases hy with h | h <;> simp [h]
     ·intro y hy; simp at hy; rcases hy with h | h | h <;> simp [h]
    ·intro s' tb2 o' t3 kv hp ht H' K'
     refine cont2 s' tb2 o' t3 kv (by unfold Jt; rw [if_neg hst]; exact hp) ht H' (kk.trans ((K4.mono ?_).trans ((K5.mono ?_).trans K')))
     ·intro y hy; simp at hy; rcases hy with h | h <;> simp [h]
     ·intro y hy; simp at hy; rcases hy with h | h | h <;> simp [h]
  rcases hfr with ⟨rfl, _⟩ | ⟨t3, kv, rfl⟩
  ·refine Bj (F9 (W := [0, 1].zip [_, _]) (Z1 U N tk L it TL n t1 t2 0 th kt wt ((6 * j : Nat) : Int) xs (S8 (Ap h)) (S8 (As e.k)) tp) hA (dl hD) H1a.left rfl rfl rfl hN hTk rfl rfl (by decide) (by decide) (ob (ta := 0) (tb2 := 0) (tc := 0) (td := 0)) ?_)
   intro s2 H2 K2 _ _
   have H2a := At.next H1a H2 K2 (fun q hq => .inl (List.mem_map_of_mem (f := (·.1)) hq))
   intro A' hA' hD' hU' _
   refine go _ _ _ s2 _ H2a K2 ?_ A' hA' hD' hU'
   intro s3 tb' M K hM hK htb' H3 K3
   refine ⟨fun Q hQ => Au (olds := [L, TL]) (Ur U N tk L it TL n t1 t2 0 th kt wt ((6 * j : Nat) : Int) xs (S8 (Ap h)) (S8 (As e.k)) tp M K _ default default 0 0) hA (dl hD) H3 rfl rfl rfl rfl hM hK trivial (fun s4 H4 K4 _ _ => hQ s4 H4 K4), fun Q hQ => ?_⟩
   refine C5 (W := [0, 1, 2].zip [_, _, _]) (Te U N tk L it TL n t1 t2 0 th kt wt ((6 * j : Nat) : Int) xs (S8 (Ap h)) (S8 (As e.k)) tp M K _ (S8 [e.c1, e.c2]) (S8 [e.c3, e.c4]) lt pt) hA (dl hD) H3.left rfl rfl rfl hM hK rfl rfl (by decide) (by decide) ⟨Ag (by lia) (by lia) (by rw [show (((6 * j : Nat) : Int) + 5).toNat = 6 * j + 5 from by lia]; exact hx5), Ag (by lia) (by lia) (by rw [show (((6 * j : Nat) : Int) + 3).toNat = 6 * j + 3 from by lia]; exact hx3), trivial⟩ ?_
   intro s4 H4 K4 _ _
   have H4a := At.next H3 H4 K4 (fun q hq => by
    have h : q.1 ∈ [L, TL, M+884] := List.mem_map_of_mem (f := (·.1)) hq
    simp only [List.mem_cons, List.not_mem_nil, or_false] at h
    rcases h with h | h | h
    ·left; rw [h]; simp
    ·left; rw [h]; simp
    ·right; lia)
   exact hQ s4 (At.up2 H4a) K4
  ·refine Bj (F9 (W := [0, 1].zip [_, _]) (Xa U N tk L it TL n t1 t2 t3 th kt wt ((6 * j : Nat) : Int) xs (S8 (Ap h)) kv (S8 (As e.k)) tp) hA (dl hD) H1a.left rfl rfl rfl hN hTk rfl rfl (by decide) (by decide) (ob (ta := 0) (tb2 := 0) (tc := 0) (td := 0)) ?_)
   intro s2 H2 K2 _ _
   have H2a := At.next H1a H2 K2 (fun q hq => .inl (List.mem_map_of_mem (f := (·.1)) hq))
   intro A' hA' hD' hU' _
   refine go _ _ _ s2 _ H2a K2 ?_ A' hA' hD' hU'
   intro s3 tb' M K hM hK htb' H3 K3
   refine ⟨fun Q hQ => Au (olds := [L, TL]) (T9 U N tk L it TL n t1 t2 t3 th kt wt ((6 * j : Nat) : Int) xs (S8 (Ap h)) kv (S8 (As e.k)) tp M K _ default default 0 0) hA (dl hD) H3 rfl rfl rfl rfl hM hK trivial (fun s4 H4 K4 _ _ => hQ s4 H4 K4), fun Q hQ => ?_⟩
   refine C5 (W := [0, 1, 2].zip [_, _, _]) (W6 U N tk L it TL n t1 t2 t3 th kt wt ((6 * j : Nat) : Int) xs (S8 (Ap h)) kv (S8 (As e.k)) tp M K _ (S8 [e.c1, e.c2]) (S8 [e.c3, e.c4]) lt pt) hA (dl hD) H3.left rfl rfl rfl hM hK rfl rfl (by decide) (by decide) ⟨Ag (by lia) (by lia) (by rw [show (((6 * j : Nat) : Int) + 5).toNat = 6 * j + 5 from by lia]; exact hx5), Ag (by lia) (by lia) (by rw [show (((6 * j : Nat) : Int) + 3).toNat = 6 * j + 3 from by lia]; exact hx3), trivial⟩ ?_
   intro s4 H4 K4 _ _
   have H4a := At.next H3 H4 K4 (fun q hq => by
    have h : q.1 ∈ [L, TL, M+884] := List.mem_map_of_mem (f := (·.1)) hq
    simp only [List.mem_cons, List.not_mem_nil, or_false] at h
    rcases h with h | h | h
    ·left; rw [h]; simp
    ·left; rw [h]; simp
    ·right; lia)
   exact hQ s4 (At.up2 H4a) K4
end
end Mine
end
namespace Mine
theorem At.rm {w : World} {T M : List (Nat × Obj)} {a : Nat × Obj} (H : At w s (T ++ (a :: M))) : At w s (T ++ M) := (H.perm List.perm_middle.symm).tl
noncomputable def Ln (h : Nat) (es : List Ent) : Option (List Nat × List Nat) := match Jt h es with
 | some p => some p
 | none => if es.length % 2 = 1 then some (E0, nX) else none
theorem Uj : ∀ u ∈ Ef, u ≠ Ax := by
 intro u hu
 simp only [Ef, List.mem_cons, List.not_mem_nil, or_false] at hu
 rcases hu with rfl | rfl | rfl | rfl | rfl <;> decide
theorem Ji {u : List Nat} (h : u ≠ Co) : Bo (S8 u) ⟨#[100, 101, 102, 97, 117, 108, 116]⟩ = false := by
 unfold Bo
 simpa [S8, Co] using h
theorem Gx (k : Nat) (h : k < 8) : As k ≠ Co := by
 have : ∀ k, k < 8 -> As k ≠ Co := by decide
 exact this k h
theorem We (l : List Ent) : (l.flatMap Az).length = 6 * l.length := by
 induction l with
 | nil => rfl
 | cons a l ih => simp [Az, ih]; lia
theorem Fa {es : List Ent} (h : es.length % 2 = 1) (j : Nat) (hj : j < 5) : (Aq es)[(Aq es).length - 1 - j]? = Ef[4 - j]? := by
 unfold Aq
 rw [if_pos h, List.length_append, List.getElem?_append_right (by rw [We]; simp [Ef]; lia)]
 congr 1
 simp [Ef]
 lia
theorem Lw {es : List Ent} (h : ¬ es.length % 2 = 1) (h2 : 2 <= es.length) : ∃ e, e ∈ es /\ (Aq es)[(Aq es).length - 1 - 4]? = some (As e.k) := by
 obtain ⟨l, e, rfl⟩ : ∃ l e, es = l ++ [e] := ⟨es.dropLast, es.getLast (by intro q; rw [q] at h2; simp at h2), (List.dropLast_concat_getLast _).symm⟩
 refine ⟨e, by simp, ?_⟩
 unfold Aq
 rw [if_neg h, List.append_nil, List.flatMap_append, List.length_append, List.getElem?_append_right (by simp [Az])]
 have e1 : (List.flatMap Az l).length + (List.flatMap Az [e]).length - 1 - 4 - (List.flatMap Az l).length = 1 := by simp [Az]
 rw [e1]
 rfl
section
variable {U : Fl}
theorem Vc {TL n th h : Nat} {xs : List Value} {es : List Ent} {tb : Obj} {F : List (Nat × Obj)} (hh : h < 5) (hW : StrsAre xs ((Aq es).map S8)) (hk : ∀ e ∈ es, e.k < 8) (h2 : 2 <= es.length) (h5 : es.length <= 5) (htb : Du tb) (hA : A.handled = none) (hD : A.depth <= 310) (hU : A.units <= 8700)
  (H : At U.W s ((TL, A9 xs n) :: (105, tb) :: F))
  (cont : ∀ s' v T tb', Hy v T (Ln h es) -> Du tb' -> At U.W s' (T ++ ((TL, A9 xs n) :: (105, tb') :: F)) -> Keeps [105, TL] s s' -> R (.ok (.ret v)) s') :
  codeAny (Ak U.W) A (.call (.ref 871) ⟨[.ref TL, .str (S8 (Ap h)) th], []⟩) R s := by
 obtain ⟨N, tk, hN, hT⟩ := H.NT
 have hxl : xs.length = (Aq es).length := by rw [StrsAre.len hW]; simp
 have hwl := Hq es
 have hw900 : (Aq es).length <= 900 := by rw [hwl]; split <;> lia
 have Ha : At U.W s ([(TL, A9 xs n)] ++ ((105, tb) :: F)) := H
 have loop : ∀ (m : Nat) (x : Res) (A' : Around) (s1 : Shared), (Aq es).length = m -> A'.handled = none -> A'.depth <= A.depth + 1 -> A'.units <= A.units + 10 * 1 ->
   At U.W s1 [(TL, A9 xs n), (N+884, Mj U.P (tk+1573) (tk+1574) TL (.str (S8 (Ap h)) th)), (N+884+2, Bz 0 (m : Nat))] -> Keeps [TL] s s1 ->
   (∀ s2 M K v, s2.heap.objs.size = M + 884 -> s2.toks = K + 1573 -> (∀ s3, At U.W s3 [] -> Keeps [] s2 s3 -> R (.ok (.ret v)) s3) -> At U.W s2 [] -> MK U.W A R x.c x.κ (Cb x.t (.ok (.ret v))) s2) ->
   (∀ s2 M K t3 kv, s2.heap.objs.size = M + 884 -> s2.toks = K + 1573 -> At U.W s2 [(N+884, Cy U.P (tk+1573) (tk+1574) t3 TL (.str (S8 (Ap h)) th) kv), (TL, A9 xs n)] ->
    (∀ s3 T v, Hy v T (if es.length % 2 = 1 then some (E0, nX) else none) -> At U.W s3 ([(N+884, Cy U.P (tk+1573) (tk+1574) t3 TL (.str (S8 (Ap h)) th) kv), (TL, A9 xs n)] ++ T) -> (∀ q ∈ T, s2.heap.objs.size <= q.1) -> Keeps [N+884, TL] s2 s3 -> R (.ok (.ret v)) s3) -> MK U.W A R x.c x.κ (Cb x.t (.ok .next)) s2) ->
   codeAny (Ak U.W) A' (Cu U.P (N+884) (N+884+2)) (fun r s'' => MK U.W A R x.c x.κ (Cb x.t r) s'') s1 := by
  intro m x A' s1 hm hA' hD' hU' H1 K1 fin1 fin2
  have H1a : At U.W s1 ([(TL, A9 xs n), (N+884, Mj U.P (tk+1573) (tk+1574) TL (.str (S8 (Ap h)) th)), (N+884+2, Bz 0 (m : Nat))] ++ ((105, tb) :: F)) := At.next Ha H1 K1 (fun q hq => by
   have hq2 : q.1 ∈ [TL, N+884, N+884+2] := List.mem_map_of_mem (f := (·.1)) hq
   simp only [List.mem_cons, List.not_mem_nil, or_false] at hq2
   rcases hq2 with h | h | h
   ·left; rw [h]; exact .head _
   ·right; lia
   ·right; lia)
  have e0 : Aq es = es.flatMap Az ++ (if es.length % 2 = 1 then Ef else []) := rfl
  have k1 : ∀ {s' : Shared}, Keeps [105, N+884+2, N+884, TL] s1 s' -> Keeps [105, TL] s s' := fun k => Keeps.trans_new (X := [105, TL]) (Y := [N+884+2, N+884]) (K1.mono (by intro y hy; simp at hy; simp [hy])) (k.mono (by intro y hy; simp at hy; rcases hy with h | h | h | h <;> simp [h])) (by intro y hy; simp at hy; lia)
  refine Abr (h := h) (W := Aq es) (tail := if es.length % 2 = 1 then Ef else []) hh hW hw900 (by split; exact Uj; intro u hu; cases hu) hA' (Dv hD' hD) (by lia) es 0 _ tb s1 e0 hk (.inl ⟨rfl, by intro q; rw [q] at h2; simp at h2⟩) htb (by rw [<- e0, hm]; exact (At.up1 H1a).up2) ?_ ?_
  ·intro s2 v T tb' o' fr' p hp hv ht H2 K2
   obtain ⟨M, K, hM, hK⟩ := H2.NT
   refine fin1 s2 M K v hM hK ?_ H2.nil
   intro s3 H3 K3
   have H2b := H2.rm.rm
   have H3a := At.next (L := []) (L' := []) H2b H3 K3 (by intro q hq; cases hq)
   refine cont s3 v T tb' (by unfold Ln; rw [hp]; exact hv) ht H3a (k1 (K2.trans (K3.mono (by intro y hy; cases hy))))
  ·intro s2 tb' o' t3 kv hn ht H2 K2
   obtain ⟨M, K, hM, hK⟩ := H2.NT
   have H2a : At U.W s2 ([(N+884, Cy U.P (tk+1573) (tk+1574) t3 TL (.str (S8 (Ap h)) th) kv), (TL, A9 xs n)] ++ ((105, tb') :: F)) := H2.tl
   refine fin2 s2 M K t3 kv hM hK H2a.left ?_
   intro s3 T v hv H3 hq K3
   have H3a : At U.W s3 (([(N+884, Cy U.P (tk+1573) (tk+1574) t3 TL (.str (S8 (Ap h)) th) kv), (TL, A9 xs n)] ++ T) ++ ((105, tb') :: F)) := At.next H2a H3 K3 (fun q hq2 => by
    rcases List.mem_append.mp hq2 with h | h
    ·left; exact List.mem_map_of_mem h
    ·right; exact hq q h)
   refine cont s3 v T tb' (by unfold Ln; rw [hn]; exact hv) ht ?_ (k1 (K2.trans (K3.mono (by intro y hy; simp at hy; rcases hy with h | h <;> simp [h]))))
   rw [List.append_assoc] at H3a
   exact H3a.tl.perm (List.perm_middle (l₁ := T))
 match hn : es.length, h2, h5 with
 | 2, _, _ =>
  have hm : (Aq es).length = 12 := by rw [hwl, hn]; rfl
  refine Aa (F9 (W := [0, 1, 3].zip [_, _, _]) (S3 U N tk TL n th xs (S8 (Ap h))) hA (dl hD) Ha.left rfl rfl rfl hN hT rfl rfl (by decide) (by decide) ⟨Ca (by rw [hxl, hm]; rfl) (by lia), trivial⟩ ?_)
  intro s1 H1 K1 _ hsz
  intro A' hA' hD' hU' _
  refine loop 12 _ A' s1 hm hA' hD' hU' H1 K1 ?_ ?_
  ·intro s2 M K v hM hK hc H2
   exact C5 (L := []) (W := []) (So U N tk TL n th xs (S8 (Ap h)) M K v) hA (dl hD) H2 rfl rfl rfl hM hK rfl rfl List.nodup_nil (by intro j hj; cases hj) trivial (fun s3 H3 K3 _ _ => hc s3 H3 K3)
  ·intro s2 M K t3 kv hM hK H2 hc
   have ho : ¬ es.length % 2 = 1 := by rw [hn]; decide
   obtain ⟨e, he, ge⟩ := Lw ho h2
   obtain ⟨dt, gd⟩ : ∃ t, xs[xs.length - 1 - 4]? = some (.str (S8 (As e.k)) t) := Bt hW (by rw [List.getElem?_map, hxl, ge]; rfl)
   refine C5 (W := [0, 1].zip [_, _]) (Sh U N tk TL n th xs (S8 (Ap h)) M K (tk+1573) (tk+1574) t3 dt 0 0 kv (S8 (As e.k)) default default) hA (dl hD) H2 rfl rfl rfl hM hK rfl rfl (by decide) (by decide) ⟨Ji (Gx _ (hk e he)), Cp (j := 4) rfl (by lia) (by lia) gd, trivial⟩ ?_
   intro s3 H3 K3 _ _
   refine hc s3 [] _ (by rw [if_neg ho]; exact ⟨rfl, rfl⟩) (by rw [List.append_nil]; exact H3) (by intro q hq; cases hq) K3
 | 3, _, _ =>
  have hm : (Aq es).length = 23 := by rw [hwl, hn]; rfl
  refine Aa (F9 (W := [0, 1, 3].zip [_, _, _]) (Su U N tk TL n th xs (S8 (Ap h))) hA (dl hD) Ha.left rfl rfl rfl hN hT rfl rfl (by decide) (by decide) ⟨Ca (by rw [hxl, hm]; rfl) (by lia), trivial⟩ ?_)
  intro s1 H1 K1 _ hsz
  intro A' hA' hD' hU' _
  refine loop 23 _ A' s1 hm hA' hD' hU' H1 K1 ?_ ?_
  ·intro s2 M K v hM hK hc H2
   exact C5 (L := []) (W := []) (Sk U N tk TL n th xs (S8 (Ap h)) M K v) hA (dl hD) H2 rfl rfl rfl hM hK rfl rfl List.nodup_nil (by intro j hj; cases hj) trivial (fun s3 H3 K3 _ _ => hc s3 H3 K3)
  ·intro s2 M K t3 kv hM hK H2 hc
   have ho : es.length % 2 = 1 := by rw [hn]
   obtain ⟨dt, gd⟩ : ∃ t, xs[xs.length - 1 - 4]? = some (.str (S8 Co) t) := Bt hW (by rw [List.getElem?_map, hxl, Fa ho 4 (by lia)]; rfl)
   obtain ⟨lt, gl⟩ : ∃ t, xs[xs.length - 1 - 2]? = some (.str (S8 E0) t) := Bt hW (by rw [List.getElem?_map, hxl, Fa ho 2 (by lia)]; rfl)
   obtain ⟨pt, gp⟩ : ∃ t, xs[xs.length - 1 - 0]? = some (.str (S8 nX) t) := Bt hW (by rw [List.getElem?_map, hxl, Fa ho 0 (by lia)]; rfl)
   refine C5 (W := [0, 1, 2].zip [_, _, _]) (Sr U N tk TL n th xs (S8 (Ap h)) M K (tk+1573) (tk+1574) t3 dt lt pt kv default (S8 E0) (S8 nX)) hA (dl hD) H2 rfl rfl rfl hM hK rfl rfl (by decide) (by decide) ⟨Cp (j := 0) rfl (by lia) (by lia) gp, Cp (j := 2) rfl (by lia) (by lia) gl, Cp (j := 4) rfl (by lia) (by lia) gd, trivial⟩ ?_
   intro s3 H3 K3 _ _
   refine hc s3 [(M+884, Ek [.str (S8 E0) lt, .str (S8 nX) pt])] _ (by rw [if_pos ho]; exact ⟨M+884, lt, pt, rfl, rfl⟩) H3 (by intro q hq; have h : q.1 = M+884 := congrArg Prod.fst (List.mem_singleton.mp hq); lia) K3
 | 4, _, _ =>
  have hm : (Aq es).length = 24 := by rw [hwl, hn]; rfl
  refine Aa (F9 (W := [0, 1, 3].zip [_, _, _]) (Rn U N tk TL n th xs (S8 (Ap h))) hA (dl hD) Ha.left rfl rfl rfl hN hT rfl rfl (by decide) (by decide) ⟨Ca (by rw [hxl, hm]; rfl) (by lia), trivial⟩ ?_)
  intro s1 H1 K1 _ hsz
  intro A' hA' hD' hU' _
  refine loop 24 _ A' s1 hm hA' hD' hU' H1 K1 ?_ ?_
  ·intro s2 M K v hM hK hc H2
   exact C5 (L := []) (W := []) (Rl U N tk TL n th xs (S8 (Ap h)) M K v) hA (dl hD) H2 rfl rfl rfl hM hK rfl rfl List.nodup_nil (by intro j hj; cases hj) trivial (fun s3 H3 K3 _ _ => hc s3 H3 K3)
  ·intro s2 M K t3 kv hM hK H2 hc
   have ho : ¬ es.length % 2 = 1 := by rw [hn]; decide
   obtain ⟨e, he, ge⟩ := Lw ho h2
   obtain ⟨dt, gd⟩ : ∃ t, xs[xs.length - 1 - 4]? = some (.str (S8 (As e.k)) t) := Bt hW (by rw [List.getElem?_map, hxl, ge]; rfl)
   refine C5 (W := [0, 1].zip [_, _]) (S4 U N tk TL n th xs (S8 (Ap h)) M K (tk+1573) (tk+1574) t3 dt 0 0 kv (S8 (As e.k)) default default) hA (dl hD) H2 rfl rfl rfl hM hK rfl rfl (by decide) (by decide) ⟨Ji (Gx _ (hk e he)), Cp (j := 4) rfl (by lia) (by lia) gd, trivial⟩ ?_
   intro s3 H3 K3 _ _
   refine hc s3 [] _ (by rw [if_neg ho]; exact ⟨rfl, rfl⟩) (by rw [List.append_nil]; exact H3) (by intro q hq; cases hq) K3
 | 5, _, _ =>
  have hm : (Aq es).length = 35 := by rw [hwl, hn]; rfl
  refine Aa (F9 (W := [0, 1, 3].zip [_, _, _]) (Sg U N tk TL n th xs (S8 (Ap h))) hA (dl hD) Ha.left rfl rfl rfl hN hT rfl rfl (by decide) (by decide) ⟨Ca (by rw [hxl, hm]; rfl) (by lia), trivial⟩ ?_)
  intro s1 H1 K1 _ hsz
  intro A' hA' hD' hU' _
  refine loop 35 _ A' s1 hm hA' hD' hU' H1 K1 ?_ ?_
  ·intro s2 M K v hM hK hc H2
   exact C5 (L := []) (W := []) (Se U N tk TL n th xs (S8 (Ap h)) M K v) hA (dl hD) H2 rfl rfl rfl hM hK rfl rfl List.nodup_nil (by intro j hj; cases hj) trivial (fun s3 H3 K3 _ _ => hc s3 H3 K3)
  ·intro s2 M K t3 kv hM hK H2 hc
   have ho : es.length % 2 = 1 := by rw [hn]
   obtain ⟨dt, gd⟩ : ∃ t, xs[xs.length - 1 - 4]? = some (.str (S8 Co) t) := Bt hW (by rw [List.getElem?_map, hxl, Fa ho 4 (by lia)]; rfl)
   obtain ⟨lt, gl⟩ : ∃ t, xs[xs.length - 1 - 2]? = some (.str (S8 E0) t) := Bt hW (by rw [List.getElem?_map, hxl, Fa ho 2 (by lia)]; rfl)
   obtain ⟨pt, gp⟩ : ∃ t, xs[xs.length - 1 - 0]? = some (.str (S8 nX) t) := Bt hW (by rw [List.getElem?_map, hxl, Fa ho 0 (by lia)]; rfl)
   refine C5 (W := [0, 1, 2].zip [_, _, _]) (Sf U N tk TL n th xs (S8 (Ap h)) M K (tk+1573) (tk+1574) t3 dt lt pt kv default (S8 E0) (S8 nX)) hA (dl hD) H2 rfl rfl rfl hM hK rfl rfl (by decide) (by decide) ⟨Cp (j := 0) rfl (by lia) (by lia) gp, Cp (j := 2) rfl (by lia) (by lia) gl, Cp (j := 4) rfl (by lia) (by lia) gd, trivial⟩ ?_
   intro s3 H3 K3 _ _
   refine hc s3 [(M+884, Ek [.str (S8 E0) lt, .str (S8 nX) pt])] _ (by rw [if_pos ho]; exact ⟨M+884, lt, pt, rfl, rfl⟩) H3 (by intro q hq; have h : q.1 = M+884 := congrArg Prod.fst (List.mem_singleton.mp hq); lia) K3
 | 0, h, _ => lia
 | 1, h, _ => lia
 | n + 6, _, h => lia
end
noncomputable def Yn (P : Params) (t1 t2 EL : Nat) (hv : Value) : Obj := A0 [Dz P F8 t1 (.ref EL), Dz P Og t2 hv] 2
noncomputable def Cv (P : Params) (t1 t2 tc td te EL : Nat) (hv pv lv sv : Value) : Obj := A0 [Dz P F8 t1 (.ref EL), Dz P Og t2 hv, Dz P L6 tc pv, Dz P C8 td lv, Dz P B7 te sv] 5
noncomputable def Gy (P : Params) : Stmt := B5 (Bl P 878) 0
noncomputable def Ds (P : Params) (L : Nat) : Env := D5 P 878 877 L
noncomputable def C7 (P : Params) (L it : Nat) : Code := .forLoop (Fi (Gy P)) (.ref it) (Eb (Gy P)) (L8 (Gy P)) (Ds P L)
noncomputable def G3 (P : Params) : Stmt := B5 (Eb (Gy P)) 0
noncomputable def Amd (P : Params) (it a : Nat) : Sem Fin := PySem.W.R.bindR (Ci (Fi (Gy P)) (.ref it) (.ref a)) fun _ => .pure (.done .next)
section
variable (U : Fl) (N tk : Nat)
noncomputable abbrev D4 (EL n ht : Nat) (xs : List Value) (hz : Int) : Res := Ay 340 U.W [EL] 1 N tk [] [A9 xs n] 66 (x2 0x2301011200222201) (.call (.ref 878) ⟨[.ref EL, .int hz ht], []⟩) .base (.pure (.again (.call (.ref 878) ⟨[.ref EL, .int hz ht], []⟩)))
theorem Afk (EL n ht : Nat) (xs : List Value) (hz : Int) : Ec 340 U.W [EL] 1 N tk [] [A9 xs n] 66 (x2 0x2301011200222201) (.call (.ref 878) ⟨[.ref EL, .int hz ht], []⟩) [0, 1, 2] (.call (C7 U.P (N+884) (N+884+1)) 1) (om [A9 xs n, Yn U.P (tk+1573) (tk+1574) EL (.int hz ht), Bh EL 0 none #[]]) 2 2
  [] := by
 obtain ⟨b, _⟩ := U; cases b <;> kernel_rfl
theorem Ad7 (L it l i a : Nat) (dd : Option Addr) (sl : Array (Option Value)) : Es 340 U.W [it] 1 N tk [] [Bh l i dd sl] 41 0x01 (C7 U.P L it) .base (Amd U.P it a) [0] (.fin .next) 0 0
  [] := by
 kernel_rfl
noncomputable abbrev Ahd : Nat := (x2 0x11111153323303033323303033323303033323303033020222)
theorem Xd (L it EL t1 t2 ht u1 u2 u3 tu : Nat) (hz k : Int) (c1 c2 : Str) : Ev 340 U.W [L, tu] 2 N tk [] [Yn U.P t1 t2 EL (.int hz ht), Ek [.int k u1, .str c1 u2, .str c2 u3]] 117 Ahd (C7 U.P L it) .base (Wm (Fi (Gy U.P)) (Ds U.P L) (.ref tu)) [0, 1] (.fin .next) (om [Cv U.P t1 t2 (tk+1573) (tk+1574) (tk+1575) EL (.int hz ht) (.int k u1) (.str c1 u2) (.str c2 u3), Ek [.int k u1, .str c1 u2, .str c2 u3]]) 3 3
  [] := by
 obtain ⟨b, _⟩ := U; cases b <;> kernel_rfl
theorem Zo (L it EL t1 t2 tc td te ht u1 u2 u3 : Nat) (hz : Int) (c1 c2 : Str) (r : Bool) : Es 340 U.W [L] 1 N tk [.u ⟨.bool r, 0, [2], [], []⟩] [Cv U.P t1 t2 tc td te EL (.int hz ht) (.int 0 u1) (.str c1 u2) (.str c2 u3)] 141 (x2 0xfef3304040444013f013f013f13f13f10001001) (C7 U.P L it) .base (Ei (Fx (G3 U.P)) (Ds U.P L)) [0] (.fin (.ret (.bool r))) 18 25
  [Ac pw U.W (.call (.builtin "list.__contains__") ⟨[.ref (N+884+1), .int hz ht], []⟩) (tk+1598) (N+884+18) [((N+884+1), (zl [.int (0) (tk+1574), .int (1) (tk+1575), .int (2) (tk+1576)] 0))] [] [] (.bool r) 0] := by
 kernel_rfl
theorem Zc (L it EL t1 t2 ht u1 u2 u3 tu : Nat) (hz k : Int) (c1 c2 : Str) (tc td te : Nat) (pv lv sv : Value) : Ev 340 U.W [L, tu] 2 N tk [] [Cv U.P t1 t2 tc td te EL (.int hz ht) (pv) (lv) (sv), Ek [.int k u1, .str c1 u2, .str c2 u3]] 117 Ahd (C7 U.P L it) .base (Wm (Fi (Gy U.P)) (Ds U.P L) (.ref tu)) [0, 1] (.fin .next) (om [Cv U.P t1 t2 tc td te EL (.int hz ht) (.int k u1) (.str c1 u2) (.str c2 u3), Ek [.int k u1, .str c1 u2, .str c2 u3]]) 3 3
  [] := by
 obtain ⟨b, _⟩ := U; cases b <;> kernel_rfl
theorem Aac (L it EL t1 t2 tc td te ht u1 u2 u3 : Nat) (hz : Int) (c1 c2 : Str) (r : Bool) : Es 340 U.W [L] 1 N tk [.u ⟨.bool r, 0, [4], [], []⟩] [Cv U.P t1 t2 tc td te EL (.int hz ht) (.int 1 u1) (.str c1 u2) (.str c2 u3)] 141 (x2 0xfef5506060666013f013f013f13f13f10001001) (C7 U.P L it) .base (Ei (Fx (G3 U.P)) (Ds U.P L)) [0] (.fin (.ret (.bool r))) 18 25
  [Ac pw U.W (.call (.builtin "list.__contains__") ⟨[.ref (N+884+3), .int hz ht], []⟩) (tk+1598) (N+884+18) [((N+884+3), (zl [.int (0) (tk+1578), .int (1) (tk+1579)] 0))] [] [] (.bool r) 0] := by
 kernel_rfl
theorem Yw (L it EL t1 t2 tc td te ht u1 u2 u3 : Nat) (hz : Int) (c1 c2 : Str) (r : Bool) : Es 340 U.W [L] 1 N tk [.u ⟨.bool r, 0, [6], [], []⟩] [Cv U.P t1 t2 tc td te EL (.int hz ht) (.int 2 u1) (.str c1 u2) (.str c2 u3)] 141 (x2 0xfef7708080888013f013f013f13f13f10001001) (C7 U.P L it) .base (Ei (Fx (G3 U.P)) (Ds U.P L)) [0] (.fin (.ret (.bool r))) 18 25
  [Ac pw U.W (.call (.builtin "list.__contains__") ⟨[.ref (N+884+5), .int hz ht], []⟩) (tk+1598) (N+884+18) [((N+884+5), (zl [.int (2) (tk+1581)] 0))] [] [] (.bool r) 0] := by
 kernel_rfl
theorem Wv (L it EL t1 t2 tc td te ht u1 u2 u3 : Nat) (hz : Int) (c1 c2 : Str) (r : Bool) : Es 340 U.W [L] 1 N tk [.u ⟨.bool r, 0, [8], [], []⟩] [Cv U.P t1 t2 tc td te EL (.int hz ht) (.int 3 u1) (.str c1 u2) (.str c2 u3)] 141 (x2 0xfef990a0a0aaa013f013f013f13f13f10001001) (C7 U.P L it) .base (Ei (Fx (G3 U.P)) (Ds U.P L)) [0] (.fin (.ret (.bool r))) 18 25
  [Ac pw U.W (.call (.builtin "list.__contains__") ⟨[.ref (N+884+7), .int hz ht], []⟩) (tk+1598) (N+884+18) [((N+884+7), (zl [.int (0) (tk+1583), .int (1) (tk+1584)] 0))] [] [] (.bool r) 0] := by
 kernel_rfl
theorem Aam (L it EL t1 t2 tc td te ht u1 u2 u3 : Nat) (hz : Int) (c1 c2 : Str) (r : Bool) : Es 340 U.W [L] 1 N tk [.u ⟨.bool r, 0, [10], [], []⟩] [Cv U.P t1 t2 tc td te EL (.int hz ht) (.int 4 u1) (.str c1 u2) (.str c2 u3)] 141 (x2 0xfefbb0c0c0ccc013f013f013f13f13f10001001) (C7 U.P L it) .base (Ei (Fx (G3 U.P)) (Ds U.P L)) [0] (.fin (.ret (.bool r))) 18 25
  [Ac pw U.W (.call (.builtin "list.__contains__") ⟨[.ref (N+884+9), .int hz ht], []⟩) (tk+1598) (N+884+18) [((N+884+9), (zl [.int (1) (tk+1586), .int (2) (tk+1587), .int (3) (tk+1588)] 0))] [] [] (.bool r) 0] := by
 kernel_rfl
theorem Z8 (L it EL t1 t2 tc td te ht u1 u2 u3 : Nat) (hz : Int) (c1 c2 : Str) (r : Bool) : Es 340 U.W [L] 1 N tk [.u ⟨.bool r, 0, [12], [], []⟩] [Cv U.P t1 t2 tc td te EL (.int hz ht) (.int 5 u1) (.str c1 u2) (.str c2 u3)] 141 (x2 0xfefdd0e0e0eee013f013f013f13f13f10001001) (C7 U.P L it) .base (Ei (Fx (G3 U.P)) (Ds U.P L)) [0] (.fin (.ret (.bool r))) 18 25
  [Ac pw U.W (.call (.builtin "list.__contains__") ⟨[.ref (N+884+11), .int hz ht], []⟩) (tk+1598) (N+884+18) [((N+884+11), (zl [.int (0) (tk+1590), .int (2) (tk+1591), .int (4) (tk+1592)] 0))] [] [] (.bool r) 0] := by
 kernel_rfl
theorem Afj (L it EL t1 t2 tc td te ht u2 u3 : Nat) (hz : Int) (pv : Value) (c1 c2 : Str) : Ev 340 U.W [L] 1 N tk [] [Cv U.P t1 t2 tc td te EL (.int hz ht) (pv) (.str c1 u2) (.str c2 u3)] 47 0x0101 (C7 U.P L it) .base (Nx (Wj (G3 U.P)) (Ds U.P L)) [0, 1] (.fin (.ret (.ref (N+884+0)))) (om [Cv U.P t1 t2 tc td te EL (.int hz ht) (pv) (.str c1 u2) (.str c2 u3), (zt [.str c1 u2, .str c2 u3])]) 1 0
  [] := by
 kernel_rfl
theorem Xr (L it EL t1 t2 tc td te ht u1 u2 u3 : Nat) (hz : Int) (c1 c2 : Str) (r : Bool) : Es 340 U.W [L] 1 N tk [.u ⟨.bool r, 0, [14], [], []⟩] [Cv U.P t1 t2 tc td te EL (.int hz ht) (.int 6 u1) (.str c1 u2) (.str c2 u3)] 141 0x00fe0f0f001000100010101000130013001313130100000001000001 (C7 U.P L it) .base (Ei (Fx (G3 U.P)) (Ds U.P L)) [0] (.fin (.ret (.bool r))) 18 25
  [Ac pw U.W (.call (.builtin "list.__contains__") ⟨[.ref (N+884+13), .int hz ht], []⟩) (tk+1598) (N+884+18) [((N+884+13), (zl [.int (3) (tk+1594)] 0))] [] [] (.bool r) 0] := by
 kernel_rfl
theorem Ym (L it EL t1 t2 tc td te ht u1 u2 u3 : Nat) (hz : Int) (c1 c2 : Str) (r : Bool) : Es 340 U.W [L] 1 N tk [.u ⟨.bool r, 0, [16], [], []⟩] [Cv U.P t1 t2 tc td te EL (.int hz ht) (.int 7 u1) (.str c1 u2) (.str c2 u3)] 141 0x00fe1111001200120012121200130013001313130100000001000001 (C7 U.P L it) .base (Ei (Fx (G3 U.P)) (Ds U.P L)) [0] (.fin (.ret (.bool r))) 18 25
  [Ac pw U.W (.call (.builtin "list.__contains__") ⟨[.ref (N+884+15), .int hz ht], []⟩) (tk+1598) (N+884+18) [((N+884+15), (zl [.int (4) (tk+1596)] 0))] [] [] (.bool r) 0] := by
 kernel_rfl
theorem V5 (EL n ht : Nat) (xs : List Value) (hz : Int) (X Y t1 t2 tc td te : Nat) (pv lv sv : Value) : Ev 340 U.W [(N+884), EL] 2 X Y [.u ⟨.int (5) (Y+1574), 2, [1], [], []⟩] [Cv U.P t1 t2 tc td te EL (.int hz ht) pv lv sv, A9 xs n] 66 (x2 0xfef0100) (D4 U N tk EL n ht xs hz).c (D4 U N tk EL n ht xs hz).κ (Cb (D4 U N tk EL n ht xs hz).t (.ok .next)) [0, 1, 2] (.fin (.ret (.ref (X+884+0)))) (om [Cv U.P t1 t2 tc td te EL (.int hz ht) pv lv sv, A9 xs n, (zt [.str y64 (Y+1578), .str Sx (Y+1579)])]) 1 7
  [Ac pw U.W (.builtin "len" ⟨[.ref EL], []⟩) (Y+1573) (X+884) [(EL, A9 xs n)] [] [] (.int (5) (Y+1574)) 2] := by
 obtain ⟨b, _⟩ := U; cases b <;> kernel_rfl
theorem Aex (EL n ht : Nat) (xs : List Value) (hz : Int) (X Y : Nat) (v : Value) : Ev 340 U.W [] 0 X Y [] [] 40 0x0 (D4 U N tk EL n ht xs hz).c (D4 U N tk EL n ht xs hz).κ (Cb (D4 U N tk EL n ht xs hz).t (.ok (.ret v))) [] (.fin (.ret v)) (om []) 0 0
  [] := by
 obtain ⟨b, _⟩ := U; cases b <;> kernel_rfl
theorem V4 (EL n ht : Nat) (xs : List Value) (hz : Int) (X Y t1 t2 tc td te : Nat) (pv lv sv : Value) : Ev 340 U.W [(N+884), EL] 2 X Y [.u ⟨.int (3) (Y+1574), 2, [1], [], []⟩] [Cv U.P t1 t2 tc td te EL (.int hz ht) pv lv sv, A9 xs n] 66 (x2 0xfef0100) (D4 U N tk EL n ht xs hz).c (D4 U N tk EL n ht xs hz).κ (Cb (D4 U N tk EL n ht xs hz).t (.ok .next)) [0, 1, 2] (.fin (.ret (.ref (X+884+0)))) (om [Cv U.P t1 t2 tc td te EL (.int hz ht) pv lv sv, A9 xs n, (zt [.str y64 (Y+1578), .str Sx (Y+1579)])]) 1 7
  [Ac pw U.W (.builtin "len" ⟨[.ref EL], []⟩) (Y+1573) (X+884) [(EL, A9 xs n)] [] [] (.int (3) (Y+1574)) 2] := by
 obtain ⟨b, _⟩ := U; cases b <;> kernel_rfl
theorem Tf (EL n ht : Nat) (xs : List Value) (hz : Int) (X Y t1 t2 tc td te : Nat) (pv lv sv : Value) : Es 340 U.W [(N+884), EL] 2 X Y [.u ⟨.int (4) (Y+1574), 2, [1], [], []⟩] [Cv U.P t1 t2 tc td te EL (.int hz ht) pv lv sv, A9 xs n] 62 (x2 0xfef0100) (D4 U N tk EL n ht xs hz).c (D4 U N tk EL n ht xs hz).κ (Cb (D4 U N tk EL n ht xs hz).t (.ok .next)) [0, 1] (.fin (.ret .none)) 0 5
  [Ac pw U.W (.builtin "len" ⟨[.ref EL], []⟩) (Y+1573) (X+884) [(EL, A9 xs n)] [] [] (.int (4) (Y+1574)) 2] := by
 obtain ⟨b, _⟩ := U; cases b <;> kernel_rfl
theorem Tb (EL n ht : Nat) (xs : List Value) (hz : Int) (X Y t1 t2 tc td te : Nat) (pv lv sv : Value) : Es 340 U.W [(N+884), EL] 2 X Y [.u ⟨.int (2) (Y+1574), 2, [1], [], []⟩] [Cv U.P t1 t2 tc td te EL (.int hz ht) pv lv sv, A9 xs n] 62 (x2 0xfef0100) (D4 U N tk EL n ht xs hz).c (D4 U N tk EL n ht xs hz).κ (Cb (D4 U N tk EL n ht xs hz).t (.ok .next)) [0, 1] (.fin (.ret .none)) 0 5
  [Ac pw U.W (.builtin "len" ⟨[.ref EL], []⟩) (Y+1573) (X+884) [(EL, A9 xs n)] [] [] (.int (2) (Y+1574)) 2] := by
 obtain ⟨b, _⟩ := U; cases b <;> kernel_rfl
end
theorem Qa : ∀ k, k < 8 -> ∀ h : Nat, h < 5 -> (G0 (Bq k)).any (· == (h : Int)) = (Bq k).contains h := by decide
section
variable {U : Fl}
theorem Zq : L8 (Gy U.P) = [] := by kernel_rfl
theorem Yq : Eb (Gy U.P) = [G3 U.P] := by kernel_rfl
theorem Ah9 : G3 U.P = .If (Fx (G3 U.P)) (Wj (G3 U.P)) [] (ifP (G3 U.P)) := by kernel_rfl
theorem Xu {k h : Nat} (hk : k < 8) (hh : h < 5) {L it EL t1 t2 tc td te ht u1 u2 u3 : Nat} {c1 c2 : Str} {M : List (Nat × Obj)} {Q : Bool -> Shared -> Prop} {E : Value -> Shared -> Prop} (hA : A.handled = none) (hD : A.depth <= 340)
  (H : At U.W s ([(L, Cv U.P t1 t2 tc td te EL (.int (h : Int) ht) (.int (k : Int) u1) (.str c1 u2) (.str c2 u3))] ++ M))
  (cont : ∀ s', At U.W s' ([(L, Cv U.P t1 t2 tc td te EL (.int (h : Int) ht) (.int (k : Int) u1) (.str c1 u2) (.str c2 u3))] ++ M) -> Keeps [L] s s' -> Q ((Bq k).contains h) s') :
  wpOwn (Ak U.W) A (C7 U.P L it) (PySem.isTrue (Fx (G3 U.P)) (Ds U.P L) (PySem.eval (Fx (G3 U.P)) (Ds U.P L))) Q E s := by
 obtain ⟨N, tk, hN, hT⟩ := H.NT
 have hs := Qa k hk h hh
 refine B8 (Bs ?_)
 have go : ∀ {n hs m' i' : Nat} {cs : List Gv} {obs : List Prop}, Ev 340 U.W [L] 1 N tk cs [Cv U.P t1 t2 tc td te EL (.int (h : Int) ht) (.int (k : Int) u1) (.str c1 u2) (.str c2 u3)] n hs (C7 U.P L it) .base (Ei (Fx (G3 U.P)) (Ds U.P L)) [0] (.fin (.ret (.bool ((Bq k).contains h)))) (om [Cv U.P t1 t2 tc td te EL (.int (h : Int) ht) (.int (k : Int) u1) (.str c1 u2) (.str c2 u3)]) m' i' obs -> Iv obs ->
   MK U.W A (RB Q) (C7 U.P L it) .base (Ei (Fx (G3 U.P)) (Ds U.P L)) s := by
  intro n hs m' i' cs obs ev hobs
  refine Au (olds := [L]) ev hA hD H rfl rfl rfl rfl hN hT hobs ?_
  intro s1 H1 K1 _ _
  exact cont s1 H1 K1
 have hk8 : k = 0 \/ k = 1 \/ k = 2 \/ k = 3 \/ k = 4 \/ k = 5 \/ k = 6 \/ k = 7 := by lia
 rcases hk8 with rfl | rfl | rfl | rfl | rfl | rfl | rfl | rfl
 ·exact go (Zo U N tk L it EL t1 t2 tc td te ht u1 u2 u3 (h : Int) c1 c2 ((Bq 0).contains h)) ⟨by rw [<- hs]; exact C0 (.cons _ _ (.cons _ _ (.cons _ _ .nil))), trivial⟩
 ·exact go (Aac U N tk L it EL t1 t2 tc td te ht u1 u2 u3 (h : Int) c1 c2 ((Bq 1).contains h)) ⟨by rw [<- hs]; exact C0 (.cons _ _ (.cons _ _ .nil)), trivial⟩
 ·exact go (Yw U N tk L it EL t1 t2 tc td te ht u1 u2 u3 (h : Int) c1 c2 ((Bq 2).contains h)) ⟨by rw [<- hs]; exact C0 (.cons _ _ .nil), trivial⟩
 ·exact go (Wv U N tk L it EL t1 t2 tc td te ht u1 u2 u3 (h : Int) c1 c2 ((Bq 3).contains h)) ⟨by rw [<- hs]; exact C0 (.cons _ _ (.cons _ _ .nil)), trivial⟩
 ·exact go (Aam U N tk L it EL t1 t2 tc td te ht u1 u2 u3 (h : Int) c1 c2 ((Bq 4).contains h)) ⟨by rw [<- hs]; exact C0 (.cons _ _ (.cons _ _ (.cons _ _ .nil))), trivial⟩
 ·exact go (Z8 U N tk L it EL t1 t2 tc td te ht u1 u2 u3 (h : Int) c1 c2 ((Bq 5).contains h)) ⟨by rw [<- hs]; exact C0 (.cons _ _ (.cons _ _ (.cons _ _ .nil))), trivial⟩
 ·exact go (Xr U N tk L it EL t1 t2 tc td te ht u1 u2 u3 (h : Int) c1 c2 ((Bq 6).contains h)) ⟨by rw [<- hs]; exact C0 (.cons _ _ .nil), trivial⟩
 ·exact go (Ym U N tk L it EL t1 t2 tc td te ht u1 u2 u3 (h : Int) c1 c2 ((Bq 7).contains h)) ⟨by rw [<- hs]; exact C0 (.cons _ _ .nil), trivial⟩
theorem At.mid {w : World} {q1 q2 q3 p : Nat × Obj} {X M : List (Nat × Obj)} (H : At w s (q1 :: q2 :: q3 :: (X ++ p :: M))) : At w s (p :: q1 :: q2 :: q3 :: (X ++ M)) := H.perm (List.perm_middle (l₁ := q1 :: q2 :: q3 :: X)).symm
theorem At.unmid {w : World} {q1 q2 q3 p : Nat × Obj} {X M : List (Nat × Obj)} (H : At w s (p :: q1 :: q2 :: q3 :: (X ++ M))) : At w s (q1 :: q2 :: q3 :: (X ++ p :: M)) := H.perm (List.perm_middle (l₁ := q1 :: q2 :: q3 :: X))
theorem Ab1 {L EL it t1 t2 ht h nE : Nat} {F : List (Nat × Obj)} (hh : h < 5) (hA : A.handled = none) (hD : A.depth <= 330) : ∀ (Tr Td : List (Nat × Obj)) (er : List Ent) (dd : Option Addr) (sl : Array (Option Value)) (fr : Obj) (s : Shared),
  EntsAre Tr er -> (∀ e ∈ er, e.k < 8) -> (fr = Yn U.P t1 t2 EL (.int (h : Int) ht) /\ Tr ≠ [] \/ ∃ tc td te pv lv sv, fr = Cv U.P t1 t2 tc td te EL (.int (h : Int) ht) pv lv sv) ->
  At U.W s ((it, Bh EL Td.length dd sl) :: (EL, A9 (Ab (Td ++ Tr)) nE) :: (L, fr) :: ((Td ++ Tr) ++ F)) ->
  (∀ s' v T o' fr' p, Jt h er = some p -> Hy v T (some p) -> At U.W s' (T ++ ((it, o') :: (EL, A9 (Ab (Td ++ Tr)) nE) :: (L, fr') :: ((Td ++ Tr) ++ F))) -> Keeps ([it, EL, L] ++ Tr.map (·.1)) s s' -> R (.ok (.ret v)) s') ->
  (∀ s' o' tc td te pv lv sv, Jt h er = none -> At U.W s' ((it, o') :: (EL, A9 (Ab (Td ++ Tr)) nE) :: (L, Cv U.P t1 t2 tc td te EL (.int (h : Int) ht) pv lv sv) :: ((Td ++ Tr) ++ F)) -> Keeps ([it, EL, L] ++ Tr.map (·.1)) s s' -> R (.ok .next) s') ->
  codeAny (Ak U.W) A (C7 U.P L it) R s
 | [], Td, er, dd, sl, fr, s, hE, hk, hfr, H, cont1, cont2 => by
  cases hE
  rcases hfr with ⟨_, h0⟩ | ⟨tc, td, te, pv, lv, sv, rfl⟩
  ·exact absurd rfl h0
  unfold C7
  refine Dr ?_
  refine Ir hA (by simp [Ab]) H ?_
  intro s1 o1 H1 K1 _
  dsimp only
  rw [Zq]
  exact Cc (cont2 s1 o1 tc td te pv lv sv rfl H1 (K1.mono (by intro y hy; simp at hy; simp [hy])))
 | p :: Tr, Td, er, dd, sl, fr, s, hE, hk, hfr, H, cont1, cont2 => by
  obtain ⟨a, e, u1, u2, u3, er', rfl, rfl, hE'⟩ : ∃ a e t1 t2 t3 er', p = (a, Ek [.int e.k t1, .str ⟨#[e.c1, e.c2]⟩ t2, .str ⟨#[e.c3, e.c4]⟩ t3]) /\ er = e :: er' /\ EntsAre Tr er' := by
   cases hE with
   | cons a e t1 t2 t3 h => exact ⟨a, e, t1, t2, t3, _, rfl, rfl, h⟩
  have hxx : (Ab (Td ++ (a, Ek [.int e.k u1, .str ⟨#[e.c1, e.c2]⟩ u2, .str ⟨#[e.c3, e.c4]⟩ u3]) :: Tr))[Td.length]? = some (.ref a) := by simp [Ab]
  have hek := hk e (.head _)
  unfold C7
  refine Dr ?_
  refine Gm hxx H ?_
  intro s1 dd1 sl1 H1 K1 _ _
  dsimp only
  obtain ⟨N1, tk1, hN1, hT1⟩ := H1.NT
  generalize ho : Ek [.int e.k u1, .str ⟨#[e.c1, e.c2]⟩ u2, .str ⟨#[e.c3, e.c4]⟩ u3] = o at *
  have hlo : @letOwnedTupleGo = Ci := PySem.W.Fast.te1578499551869305889
  rw [hlo]
  have H1 : At U.W s1 ((it, Bh EL (Td.length + 1) dd1 sl1) :: (EL, A9 (Ab (Td ++ (a, o) :: Tr)) nE) :: (L, fr) :: ((Td ++ (a, o) :: Tr) ++ F)) := H1
  refine By (Au (olds := [it]) (Ad7 U N1 tk1 L it EL (Td.length + 1) a dd1 sl1) hA (dl hD) H1 rfl rfl rfl rfl hN1 hT1 trivial ?_)
  intro s2 H2 K2 _ _
  have e0 : (Td ++ (a, o) :: Tr) ++ F = Td ++ (a, o) :: (Tr ++ F) := by simp
  rw [e0] at H2
  have H2a : At U.W s2 ([(L, fr), (a, o)] ++ ((it, Bh EL (Td.length + 1) dd1 sl1) :: (EL, A9 (Ab (Td ++ (a, o) :: Tr)) nE) :: (Td ++ (Tr ++ F)))) := (At.mid H2).up3
  obtain ⟨N2, tk2, hN2, hT2⟩ := H2a.NT
  have rest : ∀ (s3 : Shared) (tc td te : Nat), At U.W s3 ([(L, Cv U.P t1 t2 tc td te EL (.int (h : Int) ht) (.int (e.k : Int) u1) (.str ⟨#[e.c1, e.c2]⟩ u2) (.str ⟨#[e.c3, e.c4]⟩ u3)), (a, o)] ++ ((it, Bh EL (Td.length + 1) dd1 sl1) :: (EL, A9 (Ab (Td ++ (a, o) :: Tr)) nE) :: (Td ++ (Tr ++ F)))) -> Keeps [L, a] s2 s3 ->
    wpOwn (Ak U.W) A (C7 U.P L it) (PySem.execs (Eb (Gy U.P)) (Ds U.P L)) (fun f s3 => match f with
      | .next | .cont => codeAny (Ak U.W) A (C7 U.P L it) R s3
      | .brk => R (.ok .next) s3
      | .ret v => R (.ok (.ret v)) s3) (fun _ _ => False) s3 := by
   intro s3 tc td te H3 K3
   have kk : Keeps ([it, EL, L] ++ ((a, o) :: Tr).map (·.1)) s s3 := (K1.mono (by intro y hy; simp at hy; simp [hy])).trans ((K2.mono (by intro y hy; simp at hy; simp [hy])).trans (K3.mono (by intro y hy; simp at hy; rcases hy with h | h <;> simp [h])))
   rw [Yq]
   refine B4 ?_
   rw [Ah9]
   refine Fr (Xu (M := (a, o) :: (it, Bh EL (Td.length + 1) dd1 sl1) :: (EL, A9 (Ab (Td ++ (a, o) :: Tr)) nE) :: (Td ++ (Tr ++ F))) hek hh hA (dl hD) H3 ?_)
   intro s4 H4 K4
   have k4 : Keeps ([it, EL, L] ++ ((a, o) :: Tr).map (·.1)) s s4 := kk.trans (K4.mono (by intro y hy; simp at hy; simp [hy]))
   by_cases hst : (Bq e.k).contains h = true
   ·rw [hst]
    dsimp only
    obtain ⟨N4, tk4, hN4, hT4⟩ := H4.NT
    refine Bm (Bj (C5 (W := [0, 1].zip [_, _]) (Afj U N4 tk4 L it EL t1 t2 tc td te ht u2 u3 (h : Int) (.int (e.k : Int) u1) ⟨#[e.c1, e.c2]⟩ ⟨#[e.c3, e.c4]⟩) hA (dl hD) H4.left rfl rfl rfl hN4 hT4 rfl rfl (by decide) (by decide) trivial ?_))
    intro s5 H5 K5 _ _
    have H5a : At U.W s5 ((L, Cv U.P t1 t2 tc td te EL (.int (h : Int) ht) (.int (e.k : Int) u1) (.str ⟨#[e.c1, e.c2]⟩ u2) (.str ⟨#[e.c3, e.c4]⟩ u3)) :: (N4+884, Ek [.str ⟨#[e.c1, e.c2]⟩ u2, .str ⟨#[e.c3, e.c4]⟩ u3]) :: (a, o) :: (it, Bh EL (Td.length + 1) dd1 sl1) :: (EL, A9 (Ab (Td ++ (a, o) :: Tr)) nE) :: (Td ++ (Tr ++ F))) := At.next H4 H5 K5 (fun q hq => by
     have h : q.1 ∈ [L, N4+884] := List.mem_map_of_mem (f := (·.1)) hq
     simp only [List.mem_cons, List.not_mem_nil, or_false] at h
     rcases h with h | h
     ·left; rw [h]; exact .head _
     ·right; lia)
    refine cont1 s5 (.ref (N4+884)) [(N4+884, Ek [.str ⟨#[e.c1, e.c2]⟩ u2, .str ⟨#[e.c3, e.c4]⟩ u3])] (Bh EL (Td.length + 1) dd1 sl1) (Cv U.P t1 t2 tc td te EL (.int (h : Int) ht) (.int (e.k : Int) u1) (.str ⟨#[e.c1, e.c2]⟩ u2) (.str ⟨#[e.c3, e.c4]⟩ u3)) ([e.c1, e.c2], [e.c3, e.c4]) (by unfold Jt; rw [if_pos hst]) ⟨N4+884, u2, u3, rfl, rfl⟩ ?_ (k4.trans (K5.mono (by intro y hy; simp at hy; simp [hy])))
    rw [e0]
    exact H5a.up4.up4.up3.up4.perm (List.perm_middle (a := (a, o)) (l₁ := (N4+884, Ek [.str ⟨#[e.c1, e.c2]⟩ u2, .str ⟨#[e.c3, e.c4]⟩ u3]) :: (it, Bh EL (Td.length + 1) dd1 sl1) :: (EL, A9 (Ab (Td ++ (a, o) :: Tr)) nE) :: (L, Cv U.P t1 t2 tc td te EL (.int (h : Int) ht) (.int (e.k : Int) u1) (.str ⟨#[e.c1, e.c2]⟩ u2) (.str ⟨#[e.c3, e.c4]⟩ u3)) :: Td) (l₂ := Tr ++ F))
   ·have hst' : (Bq e.k).contains h = false := by simpa using hst
    rw [hst']
    refine Aw (Aw ?_)
    have H4a : At U.W s4 ((it, Bh EL (Td.length + 1) dd1 sl1) :: (EL, A9 (Ab (Td ++ (a, o) :: Tr)) nE) :: (L, Cv U.P t1 t2 tc td te EL (.int (h : Int) ht) (.int (e.k : Int) u1) (.str ⟨#[e.c1, e.c2]⟩ u2) (.str ⟨#[e.c3, e.c4]⟩ u3)) :: (Td ++ (a, o) :: (Tr ++ F))) := At.unmid (At.up3 H4).up3.up3
    have e9 : (Td ++ [(a, o)]) ++ Tr = Td ++ (a, o) :: Tr := by simp
    have l9 : (Td ++ [(a, o)]).length = Td.length + 1 := by simp
    refine Ab1 (nE := nE) (F := F) hh hA hD Tr (Td ++ [(a, o)]) er' dd1 sl1 _ s4 hE' (fun e' h' => hk e' (.tail _ h')) (.inr ⟨_, _, _, _, _, _, rfl⟩) (by rw [e9, l9, e0]; exact H4a) ?_ ?_
    ·intro s' v T o' fr' p hp hv H' K'
     rw [e9] at H'
     refine cont1 s' v T o' fr' p (by unfold Jt; rw [if_neg hst]; exact hp) hv H' (k4.trans (K'.mono ?_))
     intro y hy
     rcases List.mem_append.mp hy with h | h
     ·exact List.mem_append_left _ h
     ·exact List.mem_append_right _ (.tail _ h)
    ·intro s' o' tc' td' te' pv lv sv hp H' K'
     rw [e9] at H'
     refine cont2 s' o' tc' td' te' pv lv sv (by unfold Jt; rw [if_neg hst]; exact hp) H' (k4.trans (K'.mono ?_))
     intro y hy
     rcases List.mem_append.mp hy with h | h
     ·exact List.mem_append_left _ h
     ·exact List.mem_append_right _ (.tail _ h)
  rcases hfr with ⟨rfl, _⟩ | ⟨tc, td, te, pv, lv, sv, rfl⟩
  ·subst ho
   refine Bp (By (Au (olds := [L, a]) (Xd U N2 tk2 L it EL t1 t2 ht u1 u2 u3 a (h : Int) e.k ⟨#[e.c1, e.c2]⟩ ⟨#[e.c3, e.c4]⟩) hA (dl hD) H2a rfl rfl rfl rfl hN2 hT2 trivial ?_))
   intro s3 H3 K3 _ _
   exact rest s3 _ _ _ H3 K3
  ·subst ho
   refine Bp (By (Au (olds := [L, a]) (Zc U N2 tk2 L it EL t1 t2 ht u1 u2 u3 a (h : Int) e.k ⟨#[e.c1, e.c2]⟩ ⟨#[e.c3, e.c4]⟩ tc td te pv lv sv) hA (dl hD) H2a rfl rfl rfl rfl hN2 hT2 trivial ?_))
   intro s3 H3 K3 _ _
   exact rest s3 _ _ _ H3 K3
end
section
variable {U : Fl}
theorem Yx {EL nE ht h : Nat} {T F : List (Nat × Obj)} {es : List Ent} (hh : h < 5) (hE : EntsAre T es) (hk : ∀ e ∈ es, e.k < 8) (h2 : 2 <= es.length) (h5 : es.length <= 5) (hA : A.handled = none) (hD : A.depth <= 320)
  (H : At U.W s ((EL, A9 (Ab T) nE) :: (T ++ F)))
  (cont : ∀ s' v T', Hy v T' (Ln h es) -> At U.W s' (T' ++ ((EL, A9 (Ab T) nE) :: (T ++ F))) -> Keeps (EL :: T.map (·.1)) s s' -> R (.ok (.ret v)) s') :
  codeAny (Ak U.W) A (.call (.ref 878) ⟨[.ref EL, .int (h : Int) ht], []⟩) R s := by
 obtain ⟨N, tk, hN, hT⟩ := H.NT
 have hlen := hE.length
 have hrl : (Ab T).length = es.length := by unfold Ab; rw [List.length_map]; exact hlen
 have Ha : At U.W s ([(EL, A9 (Ab T) nE)] ++ (T ++ F)) := H
 refine Aa (C5 (W := [0, 1, 2].zip [_, _, _]) (Afk U N tk EL nE ht (Ab T) (h : Int)) hA (dl hD) Ha.left rfl rfl rfl hN hT rfl rfl (by decide) (by decide) trivial ?_)
 intro s1 H1 K1 _ hS1
 have H1a : At U.W s1 ([(EL, A9 (Ab T) nE), (N+884, Yn U.P (tk+1573) (tk+1574) EL (.int (h : Int) ht)), (N+884+1, Bh EL 0 none #[])] ++ (T ++ F)) := At.next Ha H1 K1 (fun q hq => by
  have hq2 : q.1 ∈ [EL, N+884, N+884+1] := List.mem_map_of_mem (f := (·.1)) hq
  simp only [List.mem_cons, List.not_mem_nil, or_false] at hq2
  rcases hq2 with h | h | h
  ·left; rw [h]; exact .head _
  ·right; lia
  ·right; lia)
 intro A' hA' hD'
 have k1 : ∀ {s' : Shared}, Keeps ([N+884+1, EL, N+884] ++ T.map (·.1)) s1 s' -> Keeps (EL :: T.map (·.1)) s s' := fun k => Keeps.trans_new (X := EL :: T.map (·.1)) (Y := [N+884+1, N+884]) (K1.mono (by intro y hy; simp at hy; simp [hy])) (k.mono (by
  intro y hy
  rcases List.mem_append.mp hy with h | h
  ·simp at h; rcases h with h | h | h <;> simp [h]
  ·exact List.mem_append_right _ (.tail _ h))) (by intro y hy; simp at hy; lia)
 refine Ab1 (nE := nE) (F := F) hh hA' (Dv hD' hD) T [] es none #[] _ s1 hE hk (.inl ⟨rfl, by intro q; rw [q] at hlen; simp at hlen; lia⟩) (At.up2 H1a) ?_ ?_
 ·intro s2 v T' o' fr' p hp hv H2 K2
  obtain ⟨M, K, hM, hK⟩ := H2.NT
  refine C5 (L := []) (W := []) (Aex U N tk EL nE ht (Ab T) (h : Int) M K v) hA (dl hD) H2.nil rfl rfl rfl hM hK rfl rfl List.nodup_nil (by intro j hj; cases hj) trivial ?_
  intro s3 H3 K3 _ _
  have H3a := At.next (L := []) (L' := []) H2 H3 K3 (by intro q hq; cases hq)
  have H3b : At U.W s3 (T' ++ ((N+884, fr') :: (N+884+1, o') :: (EL, A9 (Ab T) nE) :: (T ++ F))) := H3a.perm ((List.Perm.append_left T' ((List.perm_append_comm (l₁ := [(N+884, fr')]) (l₂ := [(N+884+1, o'), (EL, A9 (Ab T) nE)])).append_right (T ++ F))))
  refine cont s3 v T' (by unfold Ln; rw [hp]; exact hv) H3b.rm.rm (k1 (K2.trans (K3.mono (by intro y hy; cases hy))))
 ·intro s2 o' tc td te pv lv sv hn H2 K2
  obtain ⟨M, K, hM, hK⟩ := H2.NT
  have H2a : At U.W s2 ([(N+884, Cv U.P (tk+1573) (tk+1574) tc td te EL (.int (h : Int) ht) pv lv sv), (EL, A9 (Ab T) nE)] ++ ((N+884+1, o') :: (T ++ F))) := H2.up1.up2
  have fin : ∀ s3 T' v, Hy v T' (if es.length % 2 = 1 then some (E0, nX) else none) -> At U.W s3 ([(N+884, Cv U.P (tk+1573) (tk+1574) tc td te EL (.int (h : Int) ht) pv lv sv), (EL, A9 (Ab T) nE)] ++ T') -> (∀ q ∈ T', s2.heap.objs.size <= q.1) -> Keeps [N+884, EL] s2 s3 -> R (.ok (.ret v)) s3 := by
   intro s3 T' v hv H3 hq K3
   have H3a : At U.W s3 (([(N+884, Cv U.P (tk+1573) (tk+1574) tc td te EL (.int (h : Int) ht) pv lv sv), (EL, A9 (Ab T) nE)] ++ T') ++ ((N+884+1, o') :: (T ++ F))) := At.next H2a H3 K3 (fun q hq2 => by
    rcases List.mem_append.mp hq2 with h | h
    ·left; exact List.mem_map_of_mem h
    ·right; exact hq q h)
   have H3b : At U.W s3 ((EL, A9 (Ab T) nE) :: (T' ++ (T ++ F))) := by
    rw [List.append_assoc] at H3a
    exact At.rm (T := (EL, A9 (Ab T) nE) :: T') H3a.tl
   refine cont s3 v T' (by unfold Ln; rw [hn]; exact hv) (H3b.perm (List.perm_middle (l₁ := T'))) (k1 (K2.trans (K3.mono (by intro y hy; simp at hy; rcases hy with h | h <;> simp [h]))))
  match hn : es.length, h2, h5 with
  | 2, _, _ =>
   refine C5 (W := [0, 1].zip [_, _]) (Tb U N tk EL nE ht (Ab T) (h : Int) M K (tk+1573) (tk+1574) tc td te pv lv sv) hA (dl hD) H2a.left rfl rfl rfl hM hK rfl rfl (by decide) (by decide) ⟨Ca (by rw [hrl, hn]; rfl) (by lia), trivial⟩ ?_
   intro s3 H3 K3 _ _
   exact fin s3 [] _ (by rw [if_neg (by rw [hn]; decide)]; exact ⟨rfl, rfl⟩) (by rw [List.append_nil]; exact H3) (by intro q hq; cases hq) K3
  | 3, _, _ =>
   refine C5 (W := [0, 1, 2].zip [_, _, _]) (V4 U N tk EL nE ht (Ab T) (h : Int) M K (tk+1573) (tk+1574) tc td te pv lv sv) hA (dl hD) H2a.left rfl rfl rfl hM hK rfl rfl (by decide) (by decide) ⟨Ca (by rw [hrl, hn]; rfl) (by lia), trivial⟩ ?_
   intro s3 H3 K3 _ _
   exact fin s3 [(M+884, Ek [.str (S8 E0) (K+1578), .str (S8 nX) (K+1579)])] _ (by rw [if_pos (by rw [hn])]; exact ⟨M+884, _, _, rfl, rfl⟩) H3 (by intro q hq; have h : q.1 = M+884 := congrArg Prod.fst (List.mem_singleton.mp hq); lia) K3
  | 4, _, _ =>
   refine C5 (W := [0, 1].zip [_, _]) (Tf U N tk EL nE ht (Ab T) (h : Int) M K (tk+1573) (tk+1574) tc td te pv lv sv) hA (dl hD) H2a.left rfl rfl rfl hM hK rfl rfl (by decide) (by decide) ⟨Ca (by rw [hrl, hn]; rfl) (by lia), trivial⟩ ?_
   intro s3 H3 K3 _ _
   exact fin s3 [] _ (by rw [if_neg (by rw [hn]; decide)]; exact ⟨rfl, rfl⟩) (by rw [List.append_nil]; exact H3) (by intro q hq; cases hq) K3
  | 5, _, _ =>
   refine C5 (W := [0, 1, 2].zip [_, _, _]) (V5 U N tk EL nE ht (Ab T) (h : Int) M K (tk+1573) (tk+1574) tc td te pv lv sv) hA (dl hD) H2a.left rfl rfl rfl hM hK rfl rfl (by decide) (by decide) ⟨Ca (by rw [hrl, hn]; rfl) (by lia), trivial⟩ ?_
   intro s3 H3 K3 _ _
   exact fin s3 [(M+884, Ek [.str (S8 E0) (K+1578), .str (S8 nX) (K+1579)])] _ (by rw [if_pos (by rw [hn])]; exact ⟨M+884, _, _, rfl, rfl⟩) H3 (by intro q hq; have h : q.1 = M+884 := congrArg Prod.fst (List.mem_singleton.mp hq); lia) K3
  | 0, h, _ => lia
  | 1, h, _ => lia
  | n + 6, _, h => lia
end
end Mine
section
open PySem.Builtin PySem.Builtin.Str PySem.SeqAt
namespace Mine
theorem Jn (x : Str) (c : Nat) : ∀ (cuts : List Nat) (a f : Nat), StrLaws.ChainG x ⟨#[c]⟩ x.length a cuts f -> (∀ k, f <= k -> ¬ StrLaws.At x ⟨#[c]⟩ x.length k) -> (x.cps.toList.drop a).count c = cuts.length
 | [], a, f, h, hn => by
  have e : f = a := h
  subst e
  refine List.count_eq_zero.mpr fun hm => ?_
  obtain ⟨j, hj⟩ := List.getElem?_of_mem hm
  rw [List.getElem?_drop] at hj
  have hlt : f + j < x.cps.toList.length := (List.getElem?_eq_some_iff.mp hj).1
  exact hn (f + j) (by lia) ((StrLaws.subAt_one x c (f + j)).mpr hj)
 | d :: r, a, f, h, hn => by
  obtain ⟨had, hat, hno, hr⟩ := h
  have ih := Jn x c r _ f hr hn
  have hd := (StrLaws.subAt_one x c d).mp hat
  have e1 : x.cps.toList.drop a = (x.cps.toList.drop a).take (d - a) ++ x.cps.toList.drop d := by
   have h := (List.take_append_drop (d - a) (x.cps.toList.drop a)).symm
   rw [List.drop_drop] at h
   have e : a + (d - a) = d := by lia
   rw [e] at h
   exact h
  have hlt : d < x.cps.toList.length := (List.getElem?_eq_some_iff.mp hd).1
  have e2 : x.cps.toList.drop d = c :: x.cps.toList.drop (d + 1) := by
   rw [List.drop_eq_getElem_cons hlt]
   rw [List.getElem?_eq_getElem hlt] at hd
   rw [Option.some.inj hd]
  have z : ((x.cps.toList.drop a).take (d - a)).count c = 0 := by
   refine List.count_eq_zero.mpr fun hm => ?_
   obtain ⟨j, hj⟩ := List.getElem?_of_mem hm
   have hjl : j < d - a := by
    have h1 : j < ((x.cps.toList.drop a).take (d - a)).length := (List.getElem?_eq_some_iff.mp hj).1
    simp at h1
    lia
   rw [List.getElem?_take_of_lt hjl, List.getElem?_drop] at hj
   have hlt2 : a + j < x.cps.toList.length := (List.getElem?_eq_some_iff.mp hj).1
   exact hno (a + j) (by lia) (by lia) ((StrLaws.subAt_one x c (a + j)).mpr hj)
  rw [e1, List.count_append, z, e2, List.count_cons_self, List.length_cons]
  have ih' : (x.cps.toList.drop (d + 1)).count c = r.length := ih
  lia
theorem Ru (x : Str) (c : Nat) : (occurrences x ⟨#[c]⟩ 0 x.length (x.length + 1)).length = x.cps.toList.count c := by
 obtain ⟨f, h, hn⟩ := StrLaws.occ_tight x ⟨#[c]⟩ (Nat.le_refl 1)
 have := Jn x c _ 0 f h hn
 simpa using this.symm
theorem Sp {w : World} {tok sz : Nat} {x : Str} {c t u : Nat} : Ac pw w (.builtin "str.count" ⟨[.str x t, .str ⟨#[c]⟩ u], []⟩) tok sz [] [] [] (.int (x.cps.toList.count c : Nat) tok) 1 := by
 intro A s R hA hD hg ht hn hrd hR
 subst ht
 refine codeAny_builtin F.entry_str_count ?_
 rw [Around.under_plainId F.slot_str_count.plain]
 refine gives_str_count x ⟨#[c]⟩ t u _ _ _ _ _ ?_
 rw [Ru]
 exact hR
theorem Sc {w : World} {tok sz : Nat} {a b : Int} {ta tb : Nat} {r : Bool} (h : (!(a == b)) = r) : Ac pw w (.builtin "int.__ne__" ⟨[.int a ta, .int b tb], []⟩) tok sz [] [] [] (.bool r) 0 := by
 intro A s R hA hD hg ht hn hrd hR
 subst ht h
 refine codeAny_builtin F.entry_int_ne ?_
 rw [Around.under_plainId F.slot_int_ne.plain]
 exact gives_int_ne a b ta tb _ _ _ _ _ hR
theorem Po {l : List (Bool × Nat)} (h : ∀ i ∈ l, i.2 ≠ 10) : (Ai l).count 10 = 0 := by
 refine List.count_eq_zero.mpr fun hm => ?_
 obtain ⟨p, hp, hx⟩ := List.mem_flatMap.mp hm
 have := h p hp
 split at hx
 ·simp at hx; lia
 ·simp at hx; lia
theorem Sb {d : W2} (h : d.ok) : (d.enc.count 10 : Int) = if d.sep = 10 then 1 else 0 := by
 have h10 : ∀ i ∈ d.it, i.2 ≠ 10 := by
  intro i hi
  cases hq : d.q with
  | false => exact (h.bare hq i hi).1.2.1
  | true => exact (h.quo hq i hi).1.2.1
 have hc := Po h10
 unfold W2.enc
 split
 ·simp only [List.count_cons, List.count_append, hc, List.count_nil]
  by_cases e : d.sep = 10 <;> simp [e]
 ·simp only [List.count_cons, List.count_append, hc, List.count_nil]
  by_cases e : d.sep = 10 <;> simp [e]
theorem Jc : ∀ (ds : List W2) (ln : Int), (∀ d ∈ ds, d.ok) -> Di ln ds = ln + ((Dl ds).count 10 : Nat)
 | [], ln, _ => by simp [Di, Dl]
 | d :: ds, ln, h => by
  have e := Sb (h d (.head _))
  have ih := Jc ds (B3 ln d.sep) (fun d' h' => h d' (.tail _ h'))
  have ec : Dl (d :: ds) = d.enc ++ Dl ds := rfl
  show Di (B3 ln d.sep) ds = _
  rw [ih, ec, List.count_append]
  push_cast
  rw [e]
  unfold B3
  split <;> lia
theorem I0 (n : Nat) : (List.range n).all (fun _ => true) = true := by simp
theorem E7 {h : Heap} {a n : Nat} {xs : List Value} (e : h.get? a = some (A9 xs n)) : h.IsList a (Array.mk xs) := ⟨_, e, rfl, n, rfl⟩
theorem Lb {h : Heap} {a : Nat} {xs : List Value} (e : h.get? a = some (Ek xs)) : h.IsTuple a (Array.mk xs) := ⟨_, e, rfl, 0, rfl⟩
theorem Ko (A : Around) (s : Shared) (x : Str) (t u : Nat) : EqAt A s (.str x t) (.str x u) true := by
 have := EqAt.str_str (A := A) (s := s) x t x u
 rwa [show (x == x) = true from by rw [<- str_beq]; exact beq_self_eq_true _] at this
theorem M4 {a b n m : Nat} {xs ys : List Value} {W : List Str} (ha : s.heap.get? a = some (A9 xs n)) (hb : s.heap.get? b = some (A9 ys m)) (hx : StrsAre xs W) (hy : StrsAre ys W) (hne : a ≠ b) (hu : A.units < cLine) :
  EqAt A s (.ref a) (.ref b) true := by
 have l1 := StrsAre.len hx
 have l2 := StrsAre.len hy
 have := EqAt.of_refs hne (RcAt.lists (A := A) (e := fun _ => true) (E7 ha) (E7 hb) (by simp [l1, l2]) hu (by
  intro j h1 h2
  have h1' : j < xs.length := by simpa using h1
  have h2' : j < ys.length := by simpa using h2
  have hw : W[j]? = some (W[j]'(by lia)) := List.getElem?_eq_getElem _
  obtain ⟨t, e1⟩ := Bt hx hw
  obtain ⟨u, e2⟩ := Bt hy hw
  have e3 : (Array.mk xs)[j] = .str (W[j]'(by lia)) t := by
   rw [List.getElem?_eq_getElem h1'] at e1
   simpa using e1
  have e4 : (Array.mk ys)[j] = .str (W[j]'(by lia)) u := by
   rw [List.getElem?_eq_getElem h2'] at e2
   simpa using e2
  rw [e3, e4]
  exact Ko _ _ _ _ _))
 rwa [I0] at this
inductive AnsAre : List Value -> List (Nat × Obj) -> List (Option (List Nat × List Nat)) -> Prop
 | nil : AnsAre [] [] []
 | cons {v T r vs Ts rs} : Hy v T r -> AnsAre vs Ts rs -> AnsAre (v :: vs) (T ++ Ts) (r :: rs)
theorem AnsAre.len {vs : List Value} {Ts : List (Nat × Obj)} {rs : List (Option (List Nat × List Nat))} (h : AnsAre vs Ts rs) : vs.length = rs.length := by
 induction h with
 | nil => rfl
 | cons _ _ ih => simp [ih]
theorem Vz {v v' : Value} {T T' : List (Nat × Obj)} {r : Option (List Nat × List Nat)} (h : Hy v T r) (h' : Hy v' T' r) (ho : ∀ q ∈ T, s.heap.get? q.1 = some q.2) (ho' : ∀ q ∈ T', s.heap.get? q.1 = some q.2) (hd : ∀ q ∈ T, ∀ q' ∈ T', q.1 ≠ q'.1) (hu : A.units < cLine) : EqAt A s v v' true := by
 cases r with
 | none =>
  obtain ⟨rfl, _⟩ := h
  obtain ⟨rfl, _⟩ := h'
  exact EqAt.same _
 | some p =>
  obtain ⟨t, ta, tb, rfl, rfl⟩ := h
  obtain ⟨t', ta', tb', rfl, rfl⟩ := h'
  have hne : t ≠ t' := hd _ (.head _) _ (.head _)
  have := EqAt.of_refs hne (RcAt.tuples (A := A) (e := fun _ => true) (Lb (ho _ (.head _))) (Lb (ho' _ (.head _))) hu (by
   intro j h1 h2
   have h1' : j < 2 := by simpa using h1
   match j, h1' with
   | 0, _ => exact Ko _ _ _ _ _
   | 1, _ => exact Ko _ _ _ _ _))
  simpa [I0] using this
theorem U4 (hu : A.units < cLine) {vs : List Value} {Ts : List (Nat × Obj)} {rs : List (Option (List Nat × List Nat))} (h : AnsAre vs Ts rs) : ∀ {vs' : List Value} {Ts' : List (Nat × Obj)}, AnsAre vs' Ts' rs -> (∀ q ∈ Ts, s.heap.get? q.1 = some q.2) -> (∀ q ∈ Ts', s.heap.get? q.1 = some q.2) -> (∀ q ∈ Ts, ∀ q' ∈ Ts', q.1 ≠ q'.1) ->
  ∀ (j : Nat) (h1 : j < vs.length) (h2 : j < vs'.length), EqAt A s vs[j] vs'[j] true := by
 induction h with
 | nil => intro vs' Ts' h' _ _ _ j h1 _; cases h1
 | cons h _ ih =>
  intro vs' Ts' h' ho ho' hd j h1 h2
  cases h' with
  | cons g g' =>
   cases j with
   | zero => exact Vz h g (fun q hq => ho q (List.mem_append_left _ hq)) (fun q hq => ho' q (List.mem_append_left _ hq)) (fun q hq q' hq' => hd q (List.mem_append_left _ hq) q' (List.mem_append_left _ hq')) hu
   | succ j => exact ih g' (fun q hq => ho q (List.mem_append_right _ hq)) (fun q hq => ho' q (List.mem_append_right _ hq)) (fun q hq q' hq' => hd q (List.mem_append_right _ hq) q' (List.mem_append_right _ hq')) j (by simpa using h1) (by simpa using h2)
end Mine
end
namespace Mine
noncomputable def T8 : List Nat := [116, 101, 120, 116]
noncomputable def Agd : List Nat := [108, 105, 110, 101]
noncomputable def Xc (es : List DictEntry) (n : Nat) (sl : Array (Option Value)) : Obj := ⟨.type "frame", none, .dict (Array.mk es) n, sl⟩
noncomputable def Ft (P : Params) (t1 S : Nat) : Obj := Xc [Dz P I9 t1 (.ref S)] 1 #[]
noncomputable def Qg (P : Params) (t1 S t2 WL : Nat) : Obj := Xc [Dz P I9 t1 (.ref S), Dz P Kz t2 (.ref WL)] 2 #[]
noncomputable def Km (P : Params) (t1 S t2 WL t3 : Nat) (tv : Value) : Obj := Xc [Dz P I9 t1 (.ref S), Dz P Kz t2 (.ref WL), Dz P T8 t3 tv] 3 #[]
noncomputable def Cl (P : Params) (t1 S t2 WL t3 : Nat) (tv : Value) (t4 : Nat) (lv : Value) (sl : Array (Option Value)) : Obj := Xc [Dz P I9 t1 (.ref S), Dz P Kz t2 (.ref WL), Dz P T8 t3 tv, Dz P Agd t4 lv] 4 sl
noncomputable def C9 (P : Params) (L CE CT : Nat) : Env := { D5 P 883 882 L with cells := [(⟨⟨Kc⟩⟩, CT), (⟨⟨F8⟩⟩, CE)] }
noncomputable def L1 (P : Params) (j : Nat) : Stmt := B5 (Bl P 883) j
noncomputable def Nt (P : Params) (L CE CT : Nat) : Code := .func (Bl P 883) (C9 P L CE CT)
noncomputable def It (P : Params) : Expr := Dt (Pe (Fx (L1 P 4))) 0
noncomputable def Aik (P : Params) : Expr := Dt (Pe (Fx (L1 P 4))) 1
noncomputable def Amb : Stmt -> Expr | .Return (some e) _ => e | _ => .Name ⟨#[]⟩ ⟨0, 0, 0, 0⟩
noncomputable def Ta (P : Params) : Expr := Amb (L1 P 5)
noncomputable def Dp (P : Params) : Expr := C2 (Ta P)
noncomputable def Dg (P : Params) : Expr := Bi (Ta P)
noncomputable def Abd (P : Params) (e : Expr) (x : List Nat) (L CE CT D X : Nat) : Env := { C9 P L CE CT with cells := [(⟨⟨x⟩⟩, X)], scope := { Rs e with names := (Rs e).names.map fun (n, k) => if k == .free && n == ⟨⟨x⟩⟩ then (n, .cell) else (n, k) }, locals := D, func := none }
noncomputable def Hx (P : Params) (L CE CT D : Nat) : Env := Abd P (Dp P) Kc L CE CT D CT
noncomputable def Im (P : Params) (L CE CT D : Nat) : Env := Abd P (Dg P) F8 L CE CT D CE
noncomputable def Ka (P : Params) (L CE CT D it acc : Nat) : Code := .compStart (Dp P) 0 (.ref it) (.ref acc) (Hx P L CE CT D)
noncomputable def D3 (P : Params) (L CE CT D it acc : Nat) : Code := .compLoop (Dp P) 0 (.ref it) (.ref acc) (Hx P L CE CT D)
noncomputable def Kb (P : Params) (L CE CT D it acc : Nat) : Code := .compStart (Dg P) 0 (.ref it) (.ref acc) (Im P L CE CT D)
noncomputable def D1 (P : Params) (L CE CT D it acc : Nat) : Code := .compLoop (Dg P) 0 (.ref it) (.ref acc) (Im P L CE CT D)
noncomputable def Lu (P : Params) (td : Nat) (v : Value) : Obj := ⟨.type "dict", none, .dict #[Dz P Og td v] 1, #[]⟩
noncomputable def Pg (P : Params) (td : Nat) (v : Value) : Obj := ⟨.type "dict", none, .dict #[Dz P nK1 td v] 1, #[]⟩
section
variable (U : Fl) (N tk : Nat)
theorem Ak2 (S : Nat) : Ec 340 U.W [] 0 N tk [] [] 49 (x2 0x201101) (.call (.ref 883) ⟨[.ref S], []⟩) [0, 1, 2] (.again (Nt U.P (N+884) (N+884+1) (N+884+2))) (om [Ft U.P (tk+1573) S, A7 none, A7 none]) 3 1
  [] := by
 kernel_rfl
noncomputable abbrev Pz (L CE CT t1 S : Nat) : Res := Ay 340 U.W [L, CE, CT] 3 N tk [] [Ft U.P t1 S, A7 none, A7 none] 47 0x02000100 (Nt U.P L CE CT) .base (Nx [L1 U.P 0] (C9 U.P L CE CT))
theorem Abt (L CE CT t1 S : Nat) : Es 340 U.W [L, CE, CT] 3 N tk [] [Ft U.P t1 S, A7 none, A7 none] 47 0x02000100 (Nt U.P L CE CT) .base (Nx [L1 U.P 0] (C9 U.P L CE CT)) [0, 1, 2] (.call (.call (.ref 833) ⟨[.ref S], []⟩) 1) 0 0
  [] := by
 kernel_rfl
theorem Aak (L CE CT t1 S EL X Y : Nat) : Ev 340 U.W [L, CE, CT] 3 X Y [] [Ft U.P t1 S, A7 none, A7 none] 46 0x0202 (Pz U N tk L CE CT t1 S).c (Pz U N tk L CE CT t1 S).κ (Cb (Pz U N tk L CE CT t1 S).t (.ok (.ret (.ref EL)))) [0, 1, 2] (.fin .next) (om [Ft U.P t1 S, A7 (some (.ref EL)), A7 none]) 0 0
  [] := by
 kernel_rfl
noncomputable abbrev Qh (L CE CT t1 S EL : Nat) : Res := Ay 340 U.W [L, CE, CT] 3 N tk [] [Ft U.P t1 S, A7 (some (.ref EL)), A7 none] 47 0x02000200 (Nt U.P L CE CT) .base (Nx [L1 U.P 1] (C9 U.P L CE CT))
theorem Ac1 (L CE CT t1 S EL : Nat) : Es 340 U.W [L, CE, CT] 3 N tk [] [Ft U.P t1 S, A7 (some (.ref EL)), A7 none] 47 0x02000200 (Nt U.P L CE CT) .base (Nx [L1 U.P 1] (C9 U.P L CE CT)) [0, 1, 2] (.call (.call (.ref 840) ⟨[.ref EL], []⟩) 1) 0 0
  [] := by
 kernel_rfl
theorem Y7 (L CE CT t1 S EL WL X Y : Nat) : Ev 340 U.W [L, CE, CT] 3 X Y [] [Ft U.P t1 S, A7 (some (.ref EL)), A7 none] 48 0x0101 (Qh U N tk L CE CT t1 S EL).c (Qh U N tk L CE CT t1 S EL).κ (Cb (Qh U N tk L CE CT t1 S EL).t (.ok (.ret (.ref WL)))) [0, 1, 2] (.fin .next) (om [Qg U.P t1 S (Y+1573) WL, A7 (some (.ref EL)), A7 none]) 0 1
  [] := by
 kernel_rfl
noncomputable abbrev Pu (L CE CT t1 S t2 WL EL : Nat) : Res := Ay 340 U.W [L, CE, CT] 3 N tk [] [Qg U.P t1 S t2 WL, A7 (some (.ref EL)), A7 none] 47 0x02000100 (Nt U.P L CE CT) .base (Nx [L1 U.P 2] (C9 U.P L CE CT))
theorem Afh (L CE CT t1 S t2 WL EL : Nat) : Es 340 U.W [L, CE, CT] 3 N tk [] [Qg U.P t1 S t2 WL, A7 (some (.ref EL)), A7 none] 47 0x02000100 (Nt U.P L CE CT) .base (Nx [L1 U.P 2] (C9 U.P L CE CT)) [0, 1, 2] (.call (.call (.ref 845) ⟨[.ref WL], []⟩) 1) 0 0
  [] := by
 kernel_rfl
theorem Ws (L CE CT t1 S t2 WL EL xt X Y : Nat) (txt : Str) : Ev 340 U.W [L, CE, CT] 3 X Y [] [Qg U.P t1 S t2 WL, A7 (some (.ref EL)), A7 none] 48 0x0101 (Pu U N tk L CE CT t1 S t2 WL EL).c (Pu U N tk L CE CT t1 S t2 WL EL).κ (Cb (Pu U N tk L CE CT t1 S t2 WL EL).t (.ok (.ret (.str txt xt)))) [0, 1, 2] (.fin .next) (om [Km U.P t1 S t2 WL (Y+1573) (.str txt xt), A7 (some (.ref EL)), A7 none]) 0 1
  [] := by
 kernel_rfl
noncomputable abbrev Ql (L CE CT t1 S t2 WL EL t3 xt : Nat) (txt : Str) : Res := Ay 340 U.W [L, CE, CT] 3 N tk [] [Km U.P t1 S t2 WL t3 (.str txt xt), A7 (some (.ref EL)), A7 none] 47 0x02000100 (Nt U.P L CE CT) .base (Nx [L1 U.P 3] (C9 U.P L CE CT))
theorem Ae5 (L CE CT t1 S t2 WL EL t3 xt : Nat) (txt : Str) : Es 340 U.W [L, CE, CT] 3 N tk [] [Km U.P t1 S t2 WL t3 (.str txt xt), A7 (some (.ref EL)), A7 none] 47 0x02000100 (Nt U.P L CE CT) .base (Nx [L1 U.P 3] (C9 U.P L CE CT)) [0, 1, 2] (.call (.call (.ref 852) ⟨[.str txt xt], []⟩) 1) 0 0
  [] := by
 kernel_rfl
theorem Z4 (L CE CT t1 S t2 WL EL t3 xt T TL tl X Y : Nat) (txt : Str) (ln : Int) : Ev 340 U.W [L, CE, CT, T] 4 X Y [] [Km U.P t1 S t2 WL t3 (.str txt xt), A7 (some (.ref EL)), A7 none, Ek [.ref TL, .int ln tl]] 99 (x2 0x113375545505055545505055545505055040444) (Ql U N tk L CE CT t1 S t2 WL EL t3 xt txt).c (Ql U N tk L CE CT t1 S t2 WL EL t3 xt txt).κ (Cb (Ql U N tk L CE CT t1 S t2 WL EL t3 xt txt).t (.ok (.ret (.ref T)))) [0, 1, 2, 3] (.fin .next) (om [Cl U.P t1 S t2 WL t3 (.str txt xt) (Y+1573) (.int ln tl) #[], A7 (some (.ref EL)), A7 (some (.ref TL)), Ek [.ref TL, .int ln tl]]) 3 1
  [] := by
 obtain ⟨b, _⟩ := U; cases b <;> kernel_rfl
noncomputable abbrev Kk (L CE CT t1 S t2 WL EL t3 xt t4 tl TL : Nat) (txt : Str) (ln : Int) (sl : Array (Option Value)) : Res := Ay 340 U.W [L, CE, CT] 3 N tk [] [Cl U.P t1 S t2 WL t3 (.str txt xt) t4 (.int ln tl) sl, A7 (some (.ref EL)), A7 (some (.ref TL))] 49 0x0200010003 (Nt U.P L CE CT) .base (Le (C2 (It U.P)) (C9 U.P L CE CT))
theorem Ad1 (L CE CT t1 S t2 WL EL t3 xt t4 tl TL : Nat) (txt : Str) (ln : Int) (sl : Array (Option Value)) : Es 340 U.W [L, CE, CT] 3 N tk [] [Cl U.P t1 S t2 WL t3 (.str txt xt) t4 (.int ln tl) sl, A7 (some (.ref EL)), A7 (some (.ref TL))] 49 0x0200010003 (Nt U.P L CE CT) .base (Le (C2 (It U.P)) (C9 U.P L CE CT)) [0, 1, 2] (.call (.call (.ref 805) ⟨[.str txt xt], []⟩) 1) 0 0
  [] := by
 kernel_rfl
theorem Aag (L CE CT t1 S t2 WL EL t3 xt t4 tl TL : Nat) (txt : Str) (ln : Int) (sl : Array (Option Value)) (SL X Y : Nat) : Ev 340 U.W [] 0 X Y [] [] 42 0x0 (Kk U N tk L CE CT t1 S t2 WL EL t3 xt t4 tl TL txt ln sl).c (Kk U N tk L CE CT t1 S t2 WL EL t3 xt t4 tl TL txt ln sl).κ (Cb (Kk U N tk L CE CT t1 S t2 WL EL t3 xt t4 tl TL txt ln sl).t (.ok (.ret (.ref SL)))) [0] (.fin (.ret (.ref (X+884+0)))) (om [A9 [.ref TL, .ref SL] 0]) 1 0
  [] := by
 kernel_rfl
theorem Ad9 (L CE CT t1 S t2 WL EL t3 xt t4 tl TL : Nat) (txt : Str) (ln : Int) (sl : Array (Option Value)) : Ev 340 U.W [L, CE, CT] 3 N tk [] [Cl U.P t1 S t2 WL t3 (.str txt xt) t4 (.int ln tl) sl, A7 (some (.ref EL)), A7 (some (.ref TL))] 46 0x0101 (Nt U.P L CE CT) .base (Le (Bi (It U.P)) (C9 U.P L CE CT)) [0, 1, 2, 3] (.fin (.ret (.ref (N+884+0)))) (om [Cl U.P t1 S t2 WL t3 (.str txt xt) t4 (.int ln tl) sl, A7 (some (.ref EL)), A7 (some (.ref TL)), A9 [.ref WL, .ref WL] 0]) 1 0
  [] := by
 kernel_rfl
theorem Adg (L CE CT t1 S t2 WL EL t3 xt t4 tl TL : Nat) (txt : Str) (ln : Int) (sl : Array (Option Value)) (cnt : Int) : Es 340 U.W [L, CE, CT] 3 N tk [.u ⟨.int cnt (tk+1575), 1, [], [], []⟩, .u ⟨.bool false, 0, [], [], []⟩] [Cl U.P t1 S t2 WL t3 (.str txt xt) t4 (.int ln tl) sl, A7 (some (.ref EL)), A7 (some (.ref TL))] 61 (x2 0x1fef0000fef011) (Nt U.P L CE CT) .base (Ei (Aik U.P) (C9 U.P L CE CT)) [0, 1, 2] (.fin (.ret (.bool false))) 0 4
  [Ac pw U.W (.builtin "int.__ne__" ⟨[.int ln tl, .int ((1) + cnt) (tk+1576)], []⟩) (tk+1577) (N+884) [] [] [] (.bool false) 0, Ac pw U.W (.builtin "str.count" ⟨[.str txt xt, .str ⟨#[10]⟩ (tk+1574)], []⟩) (tk+1575) (N+884) [] [] [] (.int cnt (tk+1575)) 1] := by
 obtain ⟨b, _⟩ := U; cases b <;> kernel_rfl
noncomputable abbrev Pn (L CE CT t1 S t2 WL EL t3 xt t4 tl TL : Nat) (txt : Str) (ln : Int) (sl : Array (Option Value)) : Res := Ay 340 U.W [L, CE, CT] 3 N tk [] [Cl U.P t1 S t2 WL t3 (.str txt xt) t4 (.int ln tl) sl, A7 (some (.ref EL)), A7 (some (.ref TL))] 71 (x2 0x2605055000100) (Nt U.P L CE CT) .base (Le (C2 (Ta U.P)) (C9 U.P L CE CT))
theorem Abz (L CE CT t1 S t2 WL EL t3 xt t4 tl TL : Nat) (txt : Str) (ln : Int) (sl : Array (Option Value)) : Ev 340 U.W [L, CE, CT] 3 N tk [] [Cl U.P t1 S t2 WL t3 (.str txt xt) t4 (.int ln tl) sl, A7 (some (.ref EL)), A7 (some (.ref TL))] 71 (x2 0x2605055000100) (Nt U.P L CE CT) .base (Le (C2 (Ta U.P)) (C9 U.P L CE CT)) [0, 1, 2, 5, 6, 7, 4] (.call (Ka U.P L CE CT (N+884+4) (N+884+2) (N+884+3)) 1) (om [Cl U.P t1 S t2 WL t3 (.str txt xt) t4 (.int ln tl) sl, A7 (some (.ref EL)), A7 (some (.ref TL)), Bh (N+884+1) 0 none #[], A9 [] 0, eD, ⟨.type "list", none, .seq #[.str ⟨#[97, 46, 111, 114, 103]⟩ (tk+1573), .str ⟨#[98, 46, 111, 114, 103]⟩ (tk+1574), .str ⟨#[119, 119, 119, 46, 97, 46, 111, 114, 103]⟩ (tk+1575), .str Sx (tk+1576), .str ⟨#[97, 120]⟩ (tk+1577)] 0, #[]⟩]) 5 5
  [] := by
 obtain ⟨b, _⟩ := U; cases b <;> kernel_rfl
theorem Yp (L CE CT D it acc td ht : Nat) (host : Str) (old : Value) : Ev 340 U.W [D] 1 N tk [] [eD] 47 0x0101 (D3 U.P L CE CT D it acc) .base (Wm (Nu (Dp U.P)) (Hx U.P L CE CT D) (.str host ht)) [0] (.fin .next) (om [Lu U.P (tk+1573) (.str host ht)]) 0 1
  [] := by
 kernel_rfl
noncomputable abbrev Iy (L CE CT D it acc td ht TL : Nat) (host : Str) : Res := Ay 340 U.W [D, CT] 2 N tk [] [Lu U.P td (.str host ht), A7 (some (.ref TL))] 48 0x0200010200 (D3 U.P L CE CT D it acc) .base (Le (O8 (Dp U.P)) (Hx U.P L CE CT D))
theorem Aed (L CE CT D it acc td ht TL : Nat) (host : Str) : Es 340 U.W [D, CT] 2 N tk [] [Lu U.P td (.str host ht), A7 (some (.ref TL))] 48 0x0200010200 (D3 U.P L CE CT D it acc) .base (Le (O8 (Dp U.P)) (Hx U.P L CE CT D)) [0, 1] (.call (.call (.ref 871) ⟨[.ref TL, .str host ht], []⟩) 1) 0 0
  [] := by
 kernel_rfl
theorem Wo (L CE CT D it acc td ht TL X Y : Nat) (host : Str) (T : Nat) : Ev 340 U.W [] 0 X Y [] [] 41 0x0 (Iy U N tk L CE CT D it acc td ht TL host).c (Iy U N tk L CE CT D it acc td ht TL host).κ (Cb (Iy U N tk L CE CT D it acc td ht TL host).t (.ok (.ret (.none)))) [] (.fin (.ret (.none))) (om []) 0 0
  [] := by
 kernel_rfl
theorem X9 (L CE CT D it acc td ht TL X Y : Nat) (host : Str) (T : Nat) : Ev 340 U.W [] 0 X Y [] [] 41 0x0 (Iy U N tk L CE CT D it acc td ht TL host).c (Iy U N tk L CE CT D it acc td ht TL host).κ (Cb (Iy U N tk L CE CT D it acc td ht TL host).t (.ok (.ret (.ref T)))) [] (.fin (.ret (.ref T))) (om []) 0 0
  [] := by
 kernel_rfl
theorem Aaq (L CE CT D it acc td ht : Nat) (host : Str) (old : Value) : Ev 340 U.W [D] 1 N tk [] [Lu U.P td old] 47 0x0101 (D3 U.P L CE CT D it acc) .base (Wm (Nu (Dp U.P)) (Hx U.P L CE CT D) (.str host ht)) [0] (.fin .next) (om [Lu U.P td (.str host ht)]) 0 1
  [] := by
 kernel_rfl
theorem Adc (L CE CT t1 S t2 WL EL t3 xt t4 tl TL : Nat) (txt : Str) (ln : Int) (sl : Array (Option Value)) (X Y td : Nat) (old : Value) : Ev 340 U.W [(N+884+4)] 1 X Y [] [Lu U.P td old] 45 0x010101 (Pn U N tk L CE CT t1 S t2 WL EL t3 xt t4 tl TL txt ln sl).c (Pn U N tk L CE CT t1 S t2 WL EL t3 xt t4 tl TL txt ln sl).κ (Cb (Pn U N tk L CE CT t1 S t2 WL EL t3 xt t4 tl TL txt ln sl).t (.ok .next)) [0] (.fin (.ret (.ref (N+884+3)))) (om [⟨.type "dict", none, .dict #[] 2, #[]⟩]) 0 0
  [] := by
 obtain ⟨b, _⟩ := U; cases b <;> kernel_rfl
noncomputable abbrev Q8 (L CE CT t1 S t2 WL EL t3 xt t4 tl TL : Nat) (txt : Str) (ln : Int) (sl : Array (Option Value)) : Res := Ay 340 U.W [L, CE, CT] 3 N tk [] [Cl U.P t1 S t2 WL t3 (.str txt xt) t4 (.int ln tl) sl, A7 (some (.ref EL)), A7 (some (.ref TL))] 78 (x2 0x2544404044404044000000) (Nt U.P L CE CT) .base (Le (Bi (Ta U.P)) (C9 U.P L CE CT))
theorem Ae0 (L CE CT t1 S t2 WL EL t3 xt t4 tl TL : Nat) (txt : Str) (ln : Int) (sl : Array (Option Value)) : Ev 340 U.W [L, CE, CT] 3 N tk [] [Cl U.P t1 S t2 WL t3 (.str txt xt) t4 (.int ln tl) sl, A7 (some (.ref EL)), A7 (some (.ref TL))] 78 (x2 0x2544404044404044000000) (Nt U.P L CE CT) .base (Le (Bi (Ta U.P)) (C9 U.P L CE CT)) [0, 1, 2, 4, 5, 6] (.call (Kb U.P L CE CT (N+884+3) (N+884+1) (N+884+2)) 1) (om [Cl U.P t1 S t2 WL t3 (.str txt xt) t4 (.int ln tl) sl, A7 (some (.ref EL)), A7 (some (.ref TL)), Bz 0 5, A9 [] 0, eD]) 4 3
  [] := by
 obtain ⟨b, _⟩ := U; cases b <;> kernel_rfl
theorem Ys (L CE CT D it acc td ht : Nat) (hz : Int) (old : Value) : Ev 340 U.W [D] 1 N tk [] [eD] 47 0x0101 (D1 U.P L CE CT D it acc) .base (Wm (Nu (Dg U.P)) (Im U.P L CE CT D) (.int hz ht)) [0] (.fin .next) (om [Pg U.P (tk+1573) (.int hz ht)]) 0 1
  [] := by
 kernel_rfl
noncomputable abbrev J2 (L CE CT D it acc td ht EL : Nat) (hz : Int) : Res := Ay 340 U.W [D, CE] 2 N tk [] [Pg U.P td (.int hz ht), A7 (some (.ref EL))] 48 0x0200010200 (D1 U.P L CE CT D it acc) .base (Le (O8 (Dg U.P)) (Im U.P L CE CT D))
theorem Af9 (L CE CT D it acc td ht EL : Nat) (hz : Int) : Es 340 U.W [D, CE] 2 N tk [] [Pg U.P td (.int hz ht), A7 (some (.ref EL))] 48 0x0200010200 (D1 U.P L CE CT D it acc) .base (Le (O8 (Dg U.P)) (Im U.P L CE CT D)) [0, 1] (.call (.call (.ref 878) ⟨[.ref EL, .int hz ht], []⟩) 1) 0 0
  [] := by
 kernel_rfl
theorem Aar (L CE CT D it acc td ht EL X Y : Nat) (hz : Int) (T : Nat) : Ev 340 U.W [] 0 X Y [] [] 41 0x0 (J2 U N tk L CE CT D it acc td ht EL hz).c (J2 U N tk L CE CT D it acc td ht EL hz).κ (Cb (J2 U N tk L CE CT D it acc td ht EL hz).t (.ok (.ret (.none)))) [] (.fin (.ret (.none))) (om []) 0 0
  [] := by
 kernel_rfl
theorem Z5 (L CE CT D it acc td ht EL X Y : Nat) (hz : Int) (T : Nat) : Ev 340 U.W [] 0 X Y [] [] 41 0x0 (J2 U N tk L CE CT D it acc td ht EL hz).c (J2 U N tk L CE CT D it acc td ht EL hz).κ (Cb (J2 U N tk L CE CT D it acc td ht EL hz).t (.ok (.ret (.ref T)))) [] (.fin (.ret (.ref T))) (om []) 0 0
  [] := by
 kernel_rfl
theorem Aal (L CE CT D it acc td ht : Nat) (hz : Int) (old : Value) : Ev 340 U.W [D] 1 N tk [] [Pg U.P td old] 47 0x0101 (D1 U.P L CE CT D it acc) .base (Wm (Nu (Dg U.P)) (Im U.P L CE CT D) (.int hz ht)) [0] (.fin .next) (om [Pg U.P td (.int hz ht)]) 0 1
  [] := by
 kernel_rfl
theorem Adf (L CE CT t1 S t2 WL EL t3 xt t4 tl TL : Nat) (txt : Str) (ln : Int) (sl : Array (Option Value)) (X Y td : Nat) (old : Value) : Ev 340 U.W [(N+884+3)] 1 X Y [] [Pg U.P td old] 45 0x010101 (Q8 U N tk L CE CT t1 S t2 WL EL t3 xt t4 tl TL txt ln sl).c (Q8 U N tk L CE CT t1 S t2 WL EL t3 xt t4 tl TL txt ln sl).κ (Cb (Q8 U N tk L CE CT t1 S t2 WL EL t3 xt t4 tl TL txt ln sl).t (.ok .next)) [0] (.fin (.ret (.ref (N+884+2)))) (om [⟨.type "dict", none, .dict #[] 2, #[]⟩]) 0 0
  [] := by
 obtain ⟨b, _⟩ := U; cases b <;> kernel_rfl
end
theorem Fh {α : Type} (A B C : List α) : List.Perm (A ++ (B ++ C)) (B ++ (A ++ C)) := by
 rw [<- List.append_assoc, <- List.append_assoc]
 exact List.perm_append_comm.append_right C
theorem Oz {α : Type} (T Ts F : List α) : List.Perm ((T ++ Ts) ++ F) (Ts ++ (T ++ F)) := by
 rw [List.append_assoc]
 exact Fh T Ts F
theorem At.sw {w : World} {A B C : List (Nat × Obj)} (H : At w s (A ++ (B ++ C))) : At w s (B ++ (A ++ C)) := H.perm (Fh B A C)
section
variable {w : World} {A : Around} {s : Shared}
theorem Er {c : Code} {elt target Bw : Expr} {scope : Scope} {pos : Pos} {it acc : Value} {env : Env} (hc : c = .compLoop (.ListComp elt [⟨target, Bw, [], 0⟩] scope pos) 0 it acc env) (ht : ∀ v, letOwnedTupleGo target it v = pure ())
  (h : wpOwn (Ak w) A c (pyNext it) (fun o s' => match o with
   | none => R (.ok .next) s'
   | some v => wpOwn (Ak w) A c (assign target env v) (fun _ s1 =>
     wpOwn (Ak w) A c (PySem.eval elt env) (fun x s3 =>
      wpOwn (Ak w) A c (call (.builtin "list.append") [acc, x]) (fun _ s4 => codeAny (Ak w) A c R s4) G5 s3) G5 s1) G5 s') G5 s) :
  codeAny (Ak w) A c R s := by
 subst hc
 exact Pi ht h
end
section
variable {U : Fl}
theorem Ab6 : Dp U.P = .ListComp (O8 (Dp U.P)) [⟨Nu (Dp U.P), X1 (Dp U.P), [], 0⟩] (Rs (Dp U.P)) (Z3 (Dp U.P)) := by kernel_rfl
theorem Aau : Dg U.P = .ListComp (O8 (Dg U.P)) [⟨Nu (Dg U.P), X1 (Dg U.P), [], 0⟩] (Rs (Dg U.P)) (Z3 (Dg U.P)) := by kernel_rfl
theorem Abh (v1 v2 : Value) : Ci (Nu (Dp U.P)) v1 v2 = pure () := by kernel_rfl
theorem Ab3 (v1 v2 : Value) : Ci (Nu (Dg U.P)) v1 v2 = pure () := by kernel_rfl
theorem Hk {L CE CT D it acc : Nat} : D3 U.P L CE CT D it acc = .compLoop (.ListComp (O8 (Dp U.P)) [⟨Nu (Dp U.P), X1 (Dp U.P), [], 0⟩] (Rs (Dp U.P)) (Z3 (Dp U.P))) 0 (.ref it) (.ref acc) (Hx U.P L CE CT D) := by
 unfold D3
 rw [<- Ab6]
theorem Hn {L CE CT D it acc : Nat} : D1 U.P L CE CT D it acc = .compLoop (.ListComp (O8 (Dg U.P)) [⟨Nu (Dg U.P), X1 (Dg U.P), [], 0⟩] (Rs (Dg U.P)) (Z3 (Dg U.P))) 0 (.ref it) (.ref acc) (Im U.P L CE CT D) := by
 unfold D1
 rw [<- Aau]
theorem Ow {L CE CT D it acc : Nat} : Ka U.P L CE CT D it acc = .compStart (.ListComp (O8 (Dp U.P)) [⟨Nu (Dp U.P), X1 (Dp U.P), [], 0⟩] (Rs (Dp U.P)) (Z3 (Dp U.P))) 0 (.ref it) (.ref acc) (Hx U.P L CE CT D) := by
 unfold Ka
 rw [<- Ab6]
theorem P5 {L CE CT D it acc : Nat} : Kb U.P L CE CT D it acc = .compStart (.ListComp (O8 (Dg U.P)) [⟨Nu (Dg U.P), X1 (Dg U.P), [], 0⟩] (Rs (Dg U.P)) (Z3 (Dg U.P))) 0 (.ref it) (.ref acc) (Im U.P L CE CT D) := by
 unfold Kb
 rw [<- Aau]
theorem Sn {α : Type} {all vs : List α} {i : Nat} {v : α} (h : all.drop i = v :: vs) : i < all.length /\ all[i]? = some v /\ all.drop (i + 1) = vs := by
 have hlt : i < all.length := by
  have e := congrArg List.length h
  simp at e
  lia
 have e := List.drop_eq_getElem_cons hlt
 rw [h] at e
 refine ⟨hlt, ?_, (List.cons.inj e).2.symm⟩
 rw [List.getElem?_eq_getElem hlt]
 exact congrArg some (List.cons.inj e).1.symm
theorem Ab2 {L CE CT D it acc TL HL m nh : Nat} {xs hv : List Value} {es : List Ent} (hW : StrsAre xs ((Aq es).map S8)) (hk : ∀ e ∈ es, e.k < 8) (h2 : 2 <= es.length) (h5 : es.length <= 5) (hhv : hv.length <= 100) (hA : A.handled = none) (hD : A.depth <= 308) (hU : A.units <= 8600) : ∀ (rem : List Nat) (vs : List Value) (i : Nat) (dd : Option Addr) (sl : Array (Option Value)) (dO tb : Obj) (accs : List Value) (n : Nat) (F : List (Nat × Obj)) (s : Shared),
  hv.drop i = vs -> i <= hv.length -> StrsAre vs (rem.map fun h => S8 (Ap h)) -> (∀ h ∈ rem, h < 5) -> (dO = eD /\ rem ≠ [] \/ ∃ td old, dO = Lu U.P td old) -> Du tb -> accs.length <= i ->
  At U.W s ((it, Bh HL i dd sl) :: (HL, A9 hv nh) :: (D, dO) :: (CT, A7 (some (.ref TL))) :: (acc, A9 accs n) :: (TL, A9 xs m) :: (105, tb) :: F) ->
  (∀ s' o' vs' Ts n' tb' td old, AnsAre vs' Ts (rem.map fun h => Ln h es) -> Du tb' -> At U.W s' ((it, o') :: (HL, A9 hv nh) :: (D, Lu U.P td old) :: (CT, A7 (some (.ref TL))) :: (acc, A9 (accs ++ vs') n') :: (TL, A9 xs m) :: (105, tb') :: (Ts ++ F)) -> Keeps [it, D, CT, acc, TL, 105] s s' -> R (.ok .next) s') ->
  codeAny (Ak U.W) A (D3 U.P L CE CT D it acc) R s
 | [], vs, i, dd, sl, dO, tb, accs, n, F, s, hv', hi, hI, hr, hdo, htb, hacc, H, cont => by
  cases hI
  have hil : hv.length = i := by
   have h := congrArg List.length hv'
   simp at h
   lia
  rcases hdo with ⟨_, h0⟩ | ⟨td, old, rfl⟩
  ·exact absurd rfl h0
  refine Er Hk (fun v => by rw [PySem.W.Fast.te1578499551869305889]; exact Abh _ _) ?_
  refine Ir hA hil H ?_
  intro s1 o1 H1 K1 _
  exact cont s1 o1 [] [] n tb td old .nil htb (by rw [List.append_nil]; exact H1) (K1.mono (by intro y hy; simp at hy; simp [hy]))
 | h :: rem, vs, i, dd, sl, dO, tb, accs, n, F, s, hv', hi, hI, hr, hdo, htb, hacc, H, cont => by
  obtain ⟨ht, vs', rfl, hI'⟩ : ∃ t vs', vs = .str (S8 (Ap h)) t :: vs' /\ StrsAre vs' (rem.map fun h => S8 (Ap h)) := by
   cases hI with
   | cons x t h => exact ⟨_, _, rfl, by assumption⟩
  obtain ⟨hlt, hx, hv2⟩ := Sn hv'
  have hh := hr h (.head _)
  have hwt : (D3 U.P L CE CT D it acc).weight <= 1 := Fc (D3 U.P L CE CT D it acc)
  refine Er Hk (fun v => by rw [PySem.W.Fast.te1578499551869305889]; exact Abh _ _) ?_
  refine Gm hx H ?_
  intro s1 dd1 sl1 H1 K1 _ _
  dsimp only
  have H1 : At U.W s1 ((it, Bh HL (i + 1) dd1 sl1) :: (HL, A9 hv nh) :: (D, dO) :: (CT, A7 (some (.ref TL))) :: (acc, A9 accs n) :: (TL, A9 xs m) :: (105, tb) :: F) := H1
  have turn : ∀ s2 td, At U.W s2 ((D, Lu U.P td (.str (S8 (Ap h)) ht)) :: (it, Bh HL (i + 1) dd1 sl1) :: (HL, A9 hv nh) :: (CT, A7 (some (.ref TL))) :: (acc, A9 accs n) :: (TL, A9 xs m) :: (105, tb) :: F) -> Keeps [D] s1 s2 ->
    wpOwn (Ak U.W) A (D3 U.P L CE CT D it acc) (PySem.eval (O8 (Dp U.P)) (Hx U.P L CE CT D)) (fun x s3 =>
      wpOwn (Ak U.W) A (D3 U.P L CE CT D it acc) (call (.builtin "list.append") [.ref acc, x]) (fun _ s4 => codeAny (Ak U.W) A (D3 U.P L CE CT D it acc) R s4) G5 s3) G5 s2 := by
   intro s2 td H2 K2
   have H2a : At U.W s2 ([(D, Lu U.P td (.str (S8 (Ap h)) ht)), (CT, A7 (some (.ref TL)))] ++ ((it, Bh HL (i + 1) dd1 sl1) :: (HL, A9 hv nh) :: (acc, A9 accs n) :: (TL, A9 xs m) :: (105, tb) :: F)) := H2.up3.up1
   obtain ⟨N2, tk2, hN2, hT2⟩ := H2a.NT
   refine Bf (Br (F9 (W := [0, 1].zip [_, _]) (Aed U N2 tk2 L CE CT D it acc td ht TL (S8 (Ap h))) hA (dl hD) H2a.left rfl rfl rfl hN2 hT2 rfl rfl (by decide) (by decide) trivial ?_))
   intro s3 H3 K3 _ _
   have H3a : At U.W s3 ((D, Lu U.P td (.str (S8 (Ap h)) ht)) :: (CT, A7 (some (.ref TL))) :: (it, Bh HL (i + 1) dd1 sl1) :: (HL, A9 hv nh) :: (acc, A9 accs n) :: (TL, A9 xs m) :: (105, tb) :: F) := At.next H2a H3 K3 (fun q hq => .inl (List.mem_map_of_mem (f := (·.1)) hq))
   intro A' hA' hD' hU' _
   refine Vc hh hW hk h2 h5 htb hA' (Dv hD' hD) (by lia) H3a.up6.up6 ?_
   intro s4 v T tb' hans0 ht' H4 K4
   have H4a : At U.W s4 (([(TL, A9 xs m), (105, tb'), (D, Lu U.P td (.str (S8 (Ap h)) ht)), (CT, A7 (some (.ref TL))), (it, Bh HL (i + 1) dd1 sl1), (HL, A9 hv nh), (acc, A9 accs n)] : List (Nat × Obj)) ++ (T ++ F)) := At.sw H4
   have hans1 := hans0
   obtain ⟨X, Y, hX, hY⟩ := H4a.NT
   have kk : Keeps [it, D, CT, acc, TL, 105] s s4 := (K1.mono (by intro y hy; simp at hy; simp [hy])).trans ((K2.mono (by intro y hy; simp at hy; simp [hy])).trans ((K3.mono (by intro y hy; simp at hy; rcases hy with h | h <;> simp [h])).trans (K4.mono (by intro y hy; simp at hy; rcases hy with h | h <;> simp [h]))))
   have fin : ∀ s5, At U.W s5 [] -> Keeps [] s4 s5 -> wpOwn (Ak U.W) A (D3 U.P L CE CT D it acc) (call (.builtin "list.append") [.ref acc, v]) (fun _ s4 => codeAny (Ak U.W) A (D3 U.P L CE CT D it acc) R s4) G5 s5 := by
    intro s5 H5 K5
    have H5a : At U.W s5 ((TL, A9 xs m) :: (105, tb') :: (D, Lu U.P td (.str (S8 (Ap h)) ht)) :: (CT, A7 (some (.ref TL))) :: (it, Bh HL (i + 1) dd1 sl1) :: (HL, A9 hv nh) :: (acc, A9 accs n) :: (T ++ F)) := At.next (L := []) (L' := []) H4a H5 K5 (by intro q hq; cases hq)
    refine Hi hA (dl hD) (by lia) H5a.up6 ?_
    intro s6 H6 K6
    refine Ab2 hW hk h2 h5 hhv hA hD hU rem vs' (i + 1) dd1 sl1 _ tb' (accs ++ [v]) (n + 1) (T ++ F) s6 hv2 (by lia) hI' (fun q hq => hr q (.tail _ hq)) (.inr ⟨_, _, rfl⟩) ht' (by simp; lia) (H6.up2.up2.up2.up4.up4.up6.up6) ?_
    intro s' o' vs2 Ts n' tb2 td2 old2 hans htb2 H' K'
    refine cont s' o' (v :: vs2) (T ++ Ts) n' tb2 td2 old2 (.cons hans1 hans) htb2 ?_ (kk.trans ((K5.mono (by intro y hy; cases hy)).trans ((K6.mono (by intro y hy; simp at hy; simp [hy])).trans K')))
    have e1 : accs ++ [v] ++ vs2 = accs ++ v :: vs2 := by simp
    rw [e1] at H'
    exact H'.perm (List.Perm.append_left [_, _, _, _, _, _, _] (Oz T Ts F))
   cases hq : Ln h es with
   | none =>
    rw [hq] at hans0
    obtain ⟨rfl, _⟩ := id hans0
    exact C5 (L := []) (W := []) (Wo U N2 tk2 L CE CT D it acc td ht TL X Y (S8 (Ap h)) 0) hA (dl hD) H4a.nil rfl rfl rfl hX hY rfl rfl List.nodup_nil (by intro j hj; cases hj) trivial (fun s5 H5 K5 _ _ => fin s5 H5 K5)
   | some p =>
    rw [hq] at hans0
    obtain ⟨t, ta, tb9, rfl, _⟩ := id hans0
    exact C5 (L := []) (W := []) (X9 U N2 tk2 L CE CT D it acc td ht TL X Y (S8 (Ap h)) t) hA (dl hD) H4a.nil rfl rfl rfl hX hY rfl rfl List.nodup_nil (by intro j hj; cases hj) trivial (fun s5 H5 K5 _ _ => fin s5 H5 K5)
  obtain ⟨N1, tk1, hN1, hT1⟩ := H1.NT
  rcases hdo with ⟨rfl, _⟩ | ⟨td, old, rfl⟩
  ·refine Bp (By (Au (olds := [D]) (M := (it, Bh HL (i + 1) dd1 sl1) :: (HL, A9 hv nh) :: (CT, A7 (some (.ref TL))) :: (acc, A9 accs n) :: (TL, A9 xs m) :: (105, tb) :: F) (Yp U N1 tk1 L CE CT D it acc 0 ht (S8 (Ap h)) default) hA (dl hD) H1.up2 rfl rfl rfl rfl hN1 hT1 trivial ?_))
   intro s2 H2 K2 _ _
   exact turn s2 _ H2 K2
  ·refine Bp (By (Au (olds := [D]) (M := (it, Bh HL (i + 1) dd1 sl1) :: (HL, A9 hv nh) :: (CT, A7 (some (.ref TL))) :: (acc, A9 accs n) :: (TL, A9 xs m) :: (105, tb) :: F) (Aaq U N1 tk1 L CE CT D it acc td ht (S8 (Ap h)) old) hA (dl hD) H1.up2 rfl rfl rfl rfl hN1 hT1 trivial ?_))
   intro s2 H2 K2 _ _
   exact turn s2 _ H2 K2
theorem Ab0 {L CE CT D it acc EL nE : Nat} {T : List (Nat × Obj)} {es : List Ent} (hE : EntsAre T es) (hk : ∀ e ∈ es, e.k < 8) (h2 : 2 <= es.length) (h5 : es.length <= 5) (hA : A.handled = none) (hD : A.depth <= 308) : ∀ (rem : List Nat) (k : Nat) (dO : Obj) (accs : List Value) (n : Nat) (F : List (Nat × Obj)) (s : Shared),
  rem = List.range' k rem.length -> k + rem.length <= 5 -> (dO = eD /\ rem ≠ [] \/ ∃ td old, dO = Pg U.P td old) -> accs.length <= k ->
  At U.W s ((it, Bz k (rem.length : Nat)) :: (D, dO) :: (CE, A7 (some (.ref EL))) :: (acc, A9 accs n) :: (EL, A9 (Ab T) nE) :: (T ++ F)) ->
  (∀ s' o' vs' Ts n' td old, AnsAre vs' Ts (rem.map fun h => Ln h es) -> At U.W s' ((it, o') :: (D, Pg U.P td old) :: (CE, A7 (some (.ref EL))) :: (acc, A9 (accs ++ vs') n') :: (EL, A9 (Ab T) nE) :: (T ++ (Ts ++ F))) -> Keeps ([it, D, CE, acc, EL] ++ T.map (·.1)) s s' -> R (.ok .next) s') ->
  codeAny (Ak U.W) A (D1 U.P L CE CT D it acc) R s
 | [], k, dO, accs, n, F, s, hrem, hk5, hdo, hacc, H, cont => by
  rcases hdo with ⟨_, h0⟩ | ⟨td, old, rfl⟩
  ·exact absurd rfl h0
  refine Er Hn (fun v => by rw [PySem.W.Fast.te1578499551869305889]; exact Ab3 _ _) ?_
  refine Q2 hA (by simp) H ?_
  intro s1 H1 K1 _
  exact cont s1 _ [] [] n td old .nil (by rw [List.append_nil]; exact H1) (K1.mono (by intro y hy; simp at hy; simp [hy]))
 | h :: rem, k, dO, accs, n, F, s, hrem, hk5, hdo, hacc, H, cont => by
  have hc : k = h /\ rem = List.range' (k + 1) rem.length := by
   simp only [List.length_cons, List.range'_succ, List.cons.injEq] at hrem
   exact ⟨hrem.1.symm, hrem.2⟩
  obtain ⟨rfl, hrem'⟩ := hc
  simp only [List.length_cons] at hk5
  have hwt : (D1 U.P L CE CT D it acc).weight <= 1 := Fc (D1 U.P L CE CT D it acc)
  refine Er Hn (fun v => by rw [PySem.W.Fast.te1578499551869305889]; exact Ab3 _ _) ?_
  refine Jx (by simp) H ?_
  intro s1 H1 K1 hT1k
  dsimp only
  generalize s.toks = ht
  have H1 : At U.W s1 ((it, Bz (k + 1 : Nat) (rem.length : Nat)) :: (D, dO) :: (CE, A7 (some (.ref EL))) :: (acc, A9 accs n) :: (EL, A9 (Ab T) nE) :: (T ++ F)) := by
   have e : ((k :: rem).length : Int) - 1 = (rem.length : Int) := by simp
   rw [e] at H1
   exact H1
  have turn : ∀ s2 td, At U.W s2 ((D, Pg U.P td (.int (k : Int) ht)) :: (it, Bz (k + 1 : Nat) (rem.length : Nat)) :: (CE, A7 (some (.ref EL))) :: (acc, A9 accs n) :: (EL, A9 (Ab T) nE) :: (T ++ F)) -> Keeps [D] s1 s2 ->
    wpOwn (Ak U.W) A (D1 U.P L CE CT D it acc) (PySem.eval (O8 (Dg U.P)) (Im U.P L CE CT D)) (fun x s3 =>
      wpOwn (Ak U.W) A (D1 U.P L CE CT D it acc) (call (.builtin "list.append") [.ref acc, x]) (fun _ s4 => codeAny (Ak U.W) A (D1 U.P L CE CT D it acc) R s4) G5 s3) G5 s2 := by
   intro s2 td H2 K2
   have H2a : At U.W s2 ([(D, Pg U.P td (.int (k : Int) ht)), (CE, A7 (some (.ref EL)))] ++ ((it, Bz (k + 1 : Nat) (rem.length : Nat)) :: (acc, A9 accs n) :: (EL, A9 (Ab T) nE) :: (T ++ F))) := H2.up2.up1
   obtain ⟨N2, tk2, hN2, hT2⟩ := H2a.NT
   refine Bf (Br (F9 (W := [0, 1].zip [_, _]) (Af9 U N2 tk2 L CE CT D it acc td ht EL (k : Int)) hA (dl hD) H2a.left rfl rfl rfl hN2 hT2 rfl rfl (by decide) (by decide) trivial ?_))
   intro s3 H3 K3 _ _
   have H3a : At U.W s3 ([(D, Pg U.P td (.int (k : Int) ht)), (CE, A7 (some (.ref EL))), (it, Bz (k + 1 : Nat) (rem.length : Nat)), (acc, A9 accs n)] ++ (((EL, A9 (Ab T) nE) :: T) ++ F)) := by
    have z := At.next H2a H3 K3 (fun q hq => .inl (List.mem_map_of_mem (f := (·.1)) hq))
    exact z
   intro A' hA' hD' _ _
   refine Yx (by lia) hE hk h2 h5 hA' (Dv hD' hD) (At.sw H3a) ?_
   intro s4 v T' hans0 H4 K4
   have H4a : At U.W s4 ((D, Pg U.P td (.int (k : Int) ht)) :: (CE, A7 (some (.ref EL))) :: (it, Bz (k + 1 : Nat) (rem.length : Nat)) :: (acc, A9 accs n) :: (EL, A9 (Ab T) nE) :: (T ++ (T' ++ F))) := by
    have z := At.sw (A := T') (B := (EL, A9 (Ab T) nE) :: T) H4
    have z2 : At U.W s4 (((EL, A9 (Ab T) nE) :: T) ++ (T' ++ ([(D, Pg U.P td (.int (k : Int) ht)), (CE, A7 (some (.ref EL))), (it, Bz (k + 1 : Nat) (rem.length : Nat)), (acc, A9 accs n)] ++ F))) := z
    have z3 := z2.perm (List.Perm.append_left ((EL, A9 (Ab T) nE) :: T) (Fh [(D, Pg U.P td (.int (k : Int) ht)), (CE, A7 (some (.ref EL))), (it, Bz (k + 1 : Nat) (rem.length : Nat)), (acc, A9 accs n)] T' F))
    exact At.sw z3
   obtain ⟨X, Y, hX, hY⟩ := H4a.NT
   have hans1 := hans0
   have kk : Keeps ([it, D, CE, acc, EL] ++ T.map (·.1)) s s4 := (K1.mono (by intro y hy; simp at hy; simp [hy])).trans ((K2.mono (by intro y hy; simp at hy; simp [hy])).trans ((K3.mono (by intro y hy; simp at hy; rcases hy with h | h <;> simp [h])).trans (K4.mono (by
    intro y hy
    rcases List.mem_cons.mp hy with h | h
    ·simp [h]
    ·exact List.mem_append_right _ h))))
   have fin : ∀ s5, At U.W s5 [] -> Keeps [] s4 s5 -> wpOwn (Ak U.W) A (D1 U.P L CE CT D it acc) (call (.builtin "list.append") [.ref acc, v]) (fun _ s4 => codeAny (Ak U.W) A (D1 U.P L CE CT D it acc) R s4) G5 s5 := by
    intro s5 H5 K5
    have H5a : At U.W s5 ((D, Pg U.P td (.int (k : Int) ht)) :: (CE, A7 (some (.ref EL))) :: (it, Bz (k + 1 : Nat) (rem.length : Nat)) :: (acc, A9 accs n) :: (EL, A9 (Ab T) nE) :: (T ++ (T' ++ F))) := At.next (L := []) (L' := []) H4a H5 K5 (by intro q hq; cases hq)
    refine Hi hA (dl hD) (by lia) H5a.up3 ?_
    intro s6 H6 K6
    refine Ab0 hE hk h2 h5 hA hD rem (k + 1) _ (accs ++ [v]) (n + 1) (T' ++ F) s6 hrem' (by lia) (.inr ⟨_, _, rfl⟩) (by simp; lia) (H6.up2.up2.up3) ?_
    intro s' o' vs2 Ts n' td2 old2 hans H' K'
    refine cont s' o' (v :: vs2) (T' ++ Ts) n' td2 old2 (.cons hans1 hans) ?_ (kk.trans ((K5.mono (by intro y hy; cases hy)).trans ((K6.mono (by intro y hy; simp at hy; simp [hy])).trans K')))
    have e1 : accs ++ [v] ++ vs2 = accs ++ v :: vs2 := by simp
    rw [e1] at H'
    exact H'.perm (List.Perm.append_left [_, _, _, _, _] (List.Perm.append_left T (Oz T' Ts F)))
   cases hq : Ln k es with
   | none =>
    rw [hq] at hans0
    obtain ⟨rfl, _⟩ := id hans0
    exact C5 (L := []) (W := []) (Aar U N2 tk2 L CE CT D it acc td ht EL X Y (k : Int) 0) hA (dl hD) H4a.nil rfl rfl rfl hX hY rfl rfl List.nodup_nil (by intro j hj; cases hj) trivial (fun s5 H5 K5 _ _ => fin s5 H5 K5)
   | some p =>
    rw [hq] at hans0
    obtain ⟨t, ta, tb9, rfl, _⟩ := id hans0
    exact C5 (L := []) (W := []) (Z5 U N2 tk2 L CE CT D it acc td ht EL X Y (k : Int) t) hA (dl hD) H4a.nil rfl rfl rfl hX hY rfl rfl List.nodup_nil (by intro j hj; cases hj) trivial (fun s5 H5 K5 _ _ => fin s5 H5 K5)
  obtain ⟨N1, tk1, hN1, hT1⟩ := H1.NT
  rcases hdo with ⟨rfl, _⟩ | ⟨td, old, rfl⟩
  ·refine Bp (By (Au (olds := [D]) (M := (it, Bz (k + 1 : Nat) (rem.length : Nat)) :: (CE, A7 (some (.ref EL))) :: (acc, A9 accs n) :: (EL, A9 (Ab T) nE) :: (T ++ F)) (Ys U N1 tk1 L CE CT D it acc 0 ht (k : Int) default) hA (dl hD) H1.up1 rfl rfl rfl rfl hN1 hT1 trivial ?_))
   intro s2 H2 K2 _ _
   exact turn s2 _ H2 K2
  ·refine Bp (By (Au (olds := [D]) (M := (it, Bz (k + 1 : Nat) (rem.length : Nat)) :: (CE, A7 (some (.ref EL))) :: (acc, A9 accs n) :: (EL, A9 (Ab T) nE) :: (T ++ F)) (Aal U N1 tk1 L CE CT D it acc td ht (k : Int) old) hA (dl hD) H1.up1 rfl rfl rfl rfl hN1 hT1 trivial ?_))
   intro s2 H2 K2 _ _
   exact turn s2 _ H2 K2
end
end Mine
section
open PySem.SeqAt
namespace Mine
section
variable {w : World} {A : Around} {s : Shared} {c : Code} {E : Value -> Shared -> Prop}
theorem Sd {e1 e2 : Expr} {p : Pos} {env : Env} {e : Sem Value} {Q : Bool -> Shared -> Prop}
  (h : wpOwn (Ak w) A c (PySem.isTrue e1 env (PySem.eval e1 env)) (fun b s1 => b = false /\ wpOwn (Ak w) A c (PySem.isTrue e2 env (PySem.eval e2 env)) (fun b s2 => b = false /\ Q false s2) E s1) E s) :
  wpOwn (Ak w) A c (PySem.isTrue (.BoolOp .Or [e1, e2] p) env e) Q E s := by
 show wpOwn (Ak w) A c (PySem.isTrue e1 env (PySem.eval e1 env) >>= fun b => match BoolOp.Or, b with
  | .And, false => pure false
  | .Or, true => pure true
  | _, _ => (PySem.isTrue e2 env (PySem.eval e2 env) >>= fun b => match BoolOp.Or, b with
   | .And, false => pure false
   | .Or, true => pure true
   | _, _ => pure (BoolOp.Or == .And))) Q E s
 refine wpOwn_bind (wpOwn_mono h (fun b s1 h1 => ?_) fun _ _ h => h)
 obtain ⟨rfl, h1⟩ := h1
 refine wpOwn_bind (wpOwn_mono h1 (fun b s2 h2 => ?_) fun _ _ h => h)
 obtain ⟨rfl, h2⟩ := h2
 exact An h2
theorem Qj {e : Expr} {p : Pos} {env : Env} {Q : Flow -> Shared -> Prop} (h : wpOwn (Ak w) A c (PySem.eval e env) (fun v s1 => Q (.ret v) s1) E s) :
  wpOwn (Ak w) A c (PySem.exec (.Return (some e) p) env) Q E s := by
 show wpOwn (Ak w) A c (standAt p >>= fun _ => PySem.eval e env >>= fun x => pure (.ret x)) Q E s
 exact wpOwn_bind (Dx (wpOwn_bind (wpOwn_mono h (fun v s1 h1 => An h1) fun _ _ h => h)))
theorem Oj {l r : Expr} {p1 : Pos} {env : Env} {Q : Value -> Shared -> Prop} (hm : behindInMarks .Eq r = false)
  (h : wpOwn (Ak w) A c (PySem.eval l env) (fun a s1 => wpOwn (Ak w) A c (PySem.eval r env) (fun b s2 => wpOwn (Ak w) A c (compareOp .Eq a b) Q E s2) E s1) E s) :
  wpOwn (Ak w) A c (PySem.eval (.Compare l [.Eq] [r] p1) env) Q E s := by
 show wpOwn (Ak w) A c (PySem.eval l env >>= fun a => compareChain p1 a [.Eq] [match behindInMarks .Eq r with | true => _ | false => PySem.eval r env]) Q E s
 rw [hm]
 refine wpOwn_bind (wpOwn_mono h (fun a s1 h1 => ?_) fun _ _ h => h)
 show wpOwn (Ak w) A c (holding [a] (PySem.eval r env) >>= fun rv => standAt p1 >>= fun _ => operate [a, rv] (compareOp .Eq a rv)) Q E s1
 refine wpOwn_bind (Ce (wpOwn_mono h1 (fun b s2 h2 => ?_) fun _ _ h => h))
 exact wpOwn_bind (Dx (El h2))
end
section
variable (U : Fl)
theorem Xz : Bl U.P 883 = [L1 U.P 0] ++ ([L1 U.P 1] ++ ([L1 U.P 2] ++ ([L1 U.P 3] ++ [L1 U.P 4, L1 U.P 5]))) := by kernel_rfl
theorem Ajp : L1 U.P 4 = .If (.BoolOp .Or [It U.P, Aik U.P] (orP (Fx (L1 U.P 4)))) (Wj (L1 U.P 4)) [] (ifP (L1 U.P 4)) := by kernel_rfl
theorem Aj0 : It U.P = .Compare (C2 (It U.P)) [.NotEq] [Bi (It U.P)] (Lo (It U.P)) := by kernel_rfl
theorem Akf : behindInMarks .NotEq (Bi (It U.P)) = false := by kernel_rfl
noncomputable def Amj : Stmt -> Pos | .Return _ p => p | _ => ⟨0, 0, 0, 0⟩
theorem Ad5 : L1 U.P 5 = .Return (some (Ta U.P)) (Amj (L1 U.P 5)) := by kernel_rfl
theorem Am3 : Ta U.P = .Compare (Dp U.P) [.Eq] [Dg U.P] (Lo (Ta U.P)) := by kernel_rfl
theorem Aj2 : behindInMarks .Eq (Dg U.P) = false := by kernel_rfl
theorem Ak1 (L CE CT : Nat) : (C9 U.P L CE CT).scope.kind = .function := by kernel_rfl
theorem Ag7 (L CE CT : Nat) : (C9 U.P L CE CT).frame = some L := by kernel_rfl
theorem Ae1 (N tk L CE CT t1 S t2 WL EL t3 xt t4 tl TL : Nat) (txt : Str) (ln : Int) (sl : Array (Option Value)) : Qo (Kk U N tk L CE CT t1 S t2 WL EL t3 xt t4 tl TL txt ln sl).c (Kk U N tk L CE CT t1 S t2 WL EL t3 xt t4 tl TL txt ln sl).κ = [C9 U.P L CE CT] := by
 kernel_rfl
end
end Mine
end
section
open PySem.Builtin.List PySem.Builtin
namespace Mine
noncomputable def liC (S inst : Nat) : Code := .builtin "list.__init__" ⟨[.ref S, .ref inst], []⟩
noncomputable abbrev Qs := PySem.W.Fast.tw8711993805878244202
theorem Sa : @PySem.pyIter = Qs := PySem.W.Fast.te8711993805878244202
noncomputable abbrev Abf := PySem.W.Fast.tw15112759502256325868
theorem Zb : @PySem.Builtin.List.listLengthHint = Abf := PySem.W.Fast.te15112759502256325868
noncomputable def li1 (S : Nat) : Sem Unit := listItems (.ref S) >>= fun old => listUpdate (.ref S) (fun _ => #[]) >>= fun _ => letGo old.toList.reverse
section
variable (U : Fl) (x : SX) (S : Nat) (txt : Str) (p : Int) (tp : Nat) (st : Value) (ln : Int) (tl : Nat) (tok : Value) (N tk n0 : Nat)
noncomputable abbrev Rj (n : Nat) : List Obj := x.objs txt p tp st ln tl tok ++ ([A9 [] n] : List Obj)
theorem Acw : Ev 380 U.W (x.addrs ++ [S]) 7 N tk [] (Rj x txt p tp st ln tl tok 0) 30 0x020700 (.call (.builtin "list.__init__") ⟨[.ref S, .ref x.inst], []⟩) .base (.pure (.again (.call (.builtin "list.__init__") ⟨[.ref S, .ref x.inst], []⟩)))
  [0, 1, 2, 3, 4, 5, 6] (.again (liC S x.inst)) ((Rj x txt p tp st ln tl tok 0).map some) 0 0 [] := by
 kernel_rfl
theorem Afa : Ev 380 U.W (x.addrs ++ [S]) 7 N tk [] (Rj x txt p tp st ln tl tok 0) 30 0x07070707 (liC S x.inst) .base (PySem.W.R.bindR (li1 S) fun _ => .pure (.done .next))
  [0, 1, 2, 3, 4, 5, 6] (.fin .next) ((Rj x txt p tp st ln tl tok 0).map some) 0 0 [] := by
 kernel_rfl
theorem Ac2 : Ev 380 U.W (x.addrs ++ [S]) 7 N tk [] (Rj x txt p tp st ln tl tok 0) 30 0x01 (liC S x.inst) .base (PySem.W.R.bindR (typeOf (.ref x.inst)) fun v => .pure (.done (.ret v)))
  [0, 1, 2, 3, 4, 5, 6] (.fin (.ret (.ref 793))) ((Rj x txt p tp st ln tl tok 0).map some) 0 0 [] := by
 kernel_rfl
theorem Af6 : Ev 380 U.W (x.addrs ++ [S]) 7 N tk [] (Rj x txt p tp st ln tl tok 0) 60 (x2 0x18008801000010001) (liC S x.inst) .base (PySem.W.R.bindR (Qs (.ref x.inst)) fun v => .pure (.done (.ret v)))
  [0, 1, 2, 3, 4, 5, 6] (.fin (.ret (.ref x.inst))) ((Rj x txt p tp st ln tl tok 0).map some) 1 1 [] := by
 obtain ⟨b, _⟩ := U; cases b <;> kernel_rfl
theorem Ad6 : Ev 380 U.W (x.addrs ++ [S]) 7 N tk [] (Rj x txt p tp st ln tl tok 0) 30 (x2 0x10001) (liC S x.inst) .base (PySem.W.R.bindR (Abf (.ref x.inst)) fun b => .pure (.done (.ret (.bool b))))
  [0, 1, 2, 3, 4, 5, 6] (.fin (.ret (.bool true))) ((Rj x txt p tp st ln tl tok 0).map some) 0 0 [] := by
 kernel_rfl
theorem Acj : Ev 380 U.W (x.addrs ++ [S]) 7 N tk [] (Rj x txt p tp st ln tl tok 0) 30 (x2 0x777777) (liC S x.inst) .base (PySem.W.R.bindR (listTouch (.ref S)) fun _ => .pure (.done .next))
  [0, 1, 2, 3, 4, 5, 6] (.fin .next) ((Rj x txt p tp st ln tl tok 2).map some) 0 0 [] := by
 kernel_rfl
end
section
variable {U : Fl} {x : SX} {txt : Str} {S : Nat}
noncomputable abbrev LI (x : SX) (S : Nat) (txt : Str) (p : Int) (tp : Nat) (st : Value) (ln : Int) (tl : Nat) (tok : Value) (n : Nat) : List (Nat × Obj) := (x.addrs ++ [S]).zip (Rj x txt p tp st ln tl tok n)
theorem Akg {p : Int} {tp : Nat} {st : Value} {ln : Int} {tl : Nat} {tok : Value} (hA : A.handled = none) (hD : A.depth <= 380) (H : At U.W s (LI x S txt p tp st ln tl tok 0))
  (cont : ∀ s', At U.W s' (LI x S txt p tp st ln tl tok 2) -> Keeps (x.addrs ++ [S]) s s' -> codeAny (Ak U.W) A (elC S x.inst) R s') :
  codeAny (Ak U.W) A (.call (.builtin "list.__init__") ⟨[.ref S, .ref x.inst], []⟩) R s := by
 obtain ⟨N, tk, hN, hT⟩ := H.NT
 refine Aa (Ah (Acw U x S txt p tp st ln tl tok N tk) hA (dl hD) H rfl rfl rfl rfl hN hT trivial ?_)
 intro s1 H1 K1 _ _
 refine ⟨plainId_quiet F.slot_list_init.plain _, ?_⟩
 refine Fk (b := Builtin.«list.__init__») F.entry_list_init ?_
 show wpOwn _ _ _ (listItems (.ref S) >>= fun old => listUpdate (.ref S) (fun _ => #[]) >>= fun _ => letGo old.toList.reverse >>= fun _ => listExtendWith (.ref S) (.ref x.inst) .none) _ _ s1
 have hne : S ≠ x.inst := by
  have nd := H.nd
  have e1 : (LI x S txt p tp st ln tl tok 0).map (·.1) = x.addrs ++ [S] := rfl
  rw [e1] at nd
  intro e
  exact (List.nodup_append.mp nd).2.2 x.inst (.head _) S (.head _) e.symm
 have key : wpOwn (Ak U.W) A (liC S x.inst) (li1 S >>= fun _ => listExtendWith (.ref S) (.ref x.inst) .none) (postC pw U.W A R) (postE R) s1 := by
  obtain ⟨N1, tk1, hN1, hT1⟩ := H1.NT
  refine wpOwn_bind (By (Ah (Afa U x S txt p tp st ln tl tok N1 tk1) hA (dl hD) H1 rfl rfl rfl rfl hN1 hT1 trivial ?_))
  intro s2 H2 K2 _ _
  obtain ⟨N2, tk2, hN2, hT2⟩ := H2.NT
  unfold listExtendWith
  refine wpOwn_bind (Br (Ah (Ac2 U x S txt p tp st ln tl tok N2 tk2) hA (dl hD) H2 rfl rfl rfl rfl hN2 hT2 trivial ?_))
  intro s3 H3 K3 _ _
  show wpOwn _ _ _ (ite _ _ _) _ _ s3
  rw [if_neg (by simp [listSameRef, hne])]
  obtain ⟨N3, tk3, hN3, hT3⟩ := H3.NT
  rw [Sa, Zb]
  refine wpOwn_bind (Br (Ah (Af6 U x S txt p tp st ln tl tok N3 tk3) hA (dl hD) H3 rfl rfl rfl rfl hN3 hT3 trivial ?_))
  intro s4 H4 K4 _ _
  obtain ⟨N4, tk4, hN4, hT4⟩ := H4.NT
  refine wpOwn_bind (Ce (Bs (Ah (Ad6 U x S txt p tp st ln tl tok N4 tk4) hA (dl hD) H4 rfl rfl rfl rfl hN4 hT4 trivial ?_)))
  intro s5 H5 K5 _ _
  show wpOwn _ _ _ (ite _ _ _) _ _ s5
  rw [if_pos (Bool.true_or _)]
  obtain ⟨N5, tk5, hN5, hT5⟩ := H5.NT
  refine wpOwn_bind (Cr (wpAny_rule ?_))
  refine wpOwn_bind (By (Ah (Acj U x S txt p tp st ln tl tok N5 tk5) hA (dl hD) H5 rfl rfl rfl rfl hN5 hT5 trivial ?_))
  intro s6 H6 K6 _ _
  exact An ⟨plainId_quiet _root_.PySem.F.plain_extend_loop _, cont s6 H6 (K1.trans (K2.trans (K3.trans (K4.trans (K5.trans K6)))))⟩
 intro Γ p hc hB
 have h := key Γ p hc hB
 unfold li1 at h
 simp only [Sem.wp_bind'] at h ⊢
 exact h
end
end Mine
end
namespace Mine
noncomputable def Ajt : List Int -> Nat -> Int
 | [], _ => 0
 | a :: l, j => match j with
  | 0 => a
  | j + 1 => Ajt l j
noncomputable def spX (P : Params) (tt N tk : Nat) : SX where
 inst := N+884+2
 dict := N+884+1
 io := N+884+8
 ioD := N+884+7
 dq1 := N+884+11
 dq2 := N+884+12
 t := Qi [(tk+1609), (tk+1611), (tk+1613), (tk+1615), (tk+1618), (tk+1621), (tk+1630), (tk+1632), (tk+1635), (tk+1638), (tk+1641), (tk+1644), (tk+1646), (tk+1649), (tk+1652), (tk+1655), (tk+1657), (tk+1659), (tk+1663), 0, (tk+1592), (tk+1595), (tk+1598), 0, 0, 0, 0, 0, 0, 0, (tk+1669), (tk+1625), (tk+1628), (tk+1633), (tk+1636), (tk+1639), (tk+1650), (tk+1660), 990, tt]
 h := Ajt [PyData.keyHash P ⟨#[105, 110, 115, 116, 114, 101, 97, 109]⟩, PyData.keyHash P ⟨#[105, 110, 102, 105, 108, 101]⟩, PyData.keyHash P ⟨#[112, 111, 115, 105, 120]⟩, PyData.keyHash P ⟨#[101, 111, 102]⟩, PyData.keyHash P ⟨#[99, 111, 109, 109, 101, 110, 116, 101, 114, 115]⟩, PyData.keyHash P ⟨#[119, 111, 114, 100, 99, 104, 97, 114, 115]⟩, PyData.keyHash P ⟨#[119, 104, 105, 116, 101, 115, 112, 97, 99, 101]⟩, PyData.keyHash P ⟨#[119, 104, 105, 116, 101, 115, 112, 97, 99, 101, 95, 115, 112, 108, 105, 116]⟩, PyData.keyHash P ⟨#[113, 117, 111, 116, 101, 115]⟩, PyData.keyHash P ⟨#[101, 115, 99, 97, 112, 101]⟩, PyData.keyHash P ⟨#[101, 115, 99, 97, 112, 101, 100, 113, 117, 111, 116, 101, 115]⟩, PyData.keyHash P ⟨#[115, 116, 97, 116, 101]⟩, PyData.keyHash P ⟨#[112, 117, 115, 104, 98, 97, 99, 107]⟩, PyData.keyHash P ⟨#[108, 105, 110, 101, 110, 111]⟩, PyData.keyHash P ⟨#[100, 101, 98, 117, 103]⟩, PyData.keyHash P ⟨#[116, 111, 107, 101, 110]⟩, PyData.keyHash P ⟨#[102, 105, 108, 101, 115, 116, 97, 99, 107]⟩, PyData.keyHash P ⟨#[115, 111, 117, 114, 99, 101]⟩, PyData.keyHash P ⟨#[95, 112, 117, 110, 99, 116, 117, 97, 116, 105, 111, 110, 95, 99, 104, 97, 114, 115]⟩, 0, PyData.keyHash P ⟨#[95, 83, 116, 114, 105, 110, 103, 73, 79, 95, 95, 110, 101, 119, 108, 105, 110, 101]⟩, PyData.keyHash P ⟨#[95, 83, 116, 114, 105, 110, 103, 73, 79, 95, 95, 98, 117, 102]⟩, PyData.keyHash P ⟨#[95, 83, 116, 114, 105, 110, 103, 73, 79, 95, 95, 112, 111, 115]⟩]
noncomputable def spF (P : Params) (txt : Str) (tt N tk : Nat) : Obj := (zF P [⟨⟨#[115]⟩, (tk+1573), .str txt tt⟩, ⟨⟨#[99, 111, 109, 109, 101, 110, 116, 115]⟩, (tk+1574), .bool false⟩, ⟨⟨#[112, 111, 115, 105, 120]⟩, (tk+1575), .bool true⟩, ⟨⟨#[108, 101, 120]⟩, (tk+1666), .ref (N+884+2)⟩] 4)
section
variable (U : Fl) (txt : Str) (tt : Nat) (N tk : Nat)
noncomputable abbrev Ajr : Nat := (x2 0x100222030003030030000311222030003030030000311100042220300030300300003444442220300030300300003422203000303003000034ddd0d0dd0000022203000303003000034222030003030030000342220300030300300003422203000303003000034ccc0c0cc0000022203000303003000034222030003030030000342220300030300300003422203000303003000034222030003030030000342220300030300300003422203000303003000030020330003000034203300030000342220300030300300003422203000303003000034222030003030030000344222030003030030000344222030003030030000344222030003030030000344444888090000000909009000000009ab00b00bbbb809900000009000000009b00bbbb010a89000090000000900000009aa888090000000909009000000009a888090000000909009000000009a888090000000909009000000009aa0000a00a00a00aa0000a00a00aaaaaa001000090900000000000000000000000000000000000000070000070007007777770100000000000000000000000000000040000004000044444444440010000303000000000000000000000000000000000110100111111001)
noncomputable abbrev Jg : Res := Ay 330 U.W [] 0 N tk [] [] 1400 Ajr
  (.call (.ref 805) ⟨[.str txt tt], []⟩) .base (.pure (.again (.call (.ref 805) ⟨[.str txt tt], []⟩)))
noncomputable abbrev L2 (p : Pos) (below : List (Code × Pos)) : Res := Ay 330 U.W [(N+884+2), (N+884+1), (N+884+8), (N+884+7), (N+884+11), (N+884+12), (N+884)] 7 (N+13) (tk+99) [] ((spX U.P tt N tk).objs txt 0 (tk+1596) (.str ⟨#[32]⟩ (tk+1642)) 1 (tk+1647) (.str ⟨#[]⟩ (tk+1653)) ++ ([spF U.P txt tt N tk] : List Obj)) 200 0x020808
  (Jg U txt tt N tk).c (Jg U txt tt N tk).κ (kSt (Jg U txt tt N tk).t (((Jg U txt tt N tk).c, p) :: below))
theorem R9 : (Ev 330 U.W [] 0 N tk [] [] 1400 Ajr
  (.call (.ref 805) ⟨[.str txt tt], []⟩) .base (.pure (.again (.call (.ref 805) ⟨[.str txt tt], []⟩)))
  [2, 1, 8, 7, 11, 12, 0] .stk (((spX U.P tt N tk).objs txt 0 (tk+1596) (.str ⟨#[32]⟩ (tk+1642)) 1 (tk+1647) (.str ⟨#[]⟩ (tk+1653)) ++ ([spF U.P txt tt N tk] : List Obj)).map some) 13 99 []) /\ ∀ (p : Pos) (below : List (Code × Pos)), (Ev 330 U.W [(N+884+2), (N+884+1), (N+884+8), (N+884+7), (N+884+11), (N+884+12), (N+884)] 7 (N+13) (tk+99) [] ((spX U.P tt N tk).objs txt 0 (tk+1596) (.str ⟨#[32]⟩ (tk+1642)) 1 (tk+1647) (.str ⟨#[]⟩ (tk+1653)) ++ ([spF U.P txt tt N tk] : List Obj)) 200 0x020808
  (Jg U txt tt N tk).c (Jg U txt tt N tk).κ (kSt (Jg U txt tt N tk).t (((Jg U txt tt N tk).c, p) :: below))
  [0, 1, 2, 3, 4, 5, 6, 7] (.call (.call (.builtin "list.__init__") ⟨[.ref (N+884+13), .ref (N+884+2)], []⟩) 6) (((spX U.P tt N tk).objs txt 0 (tk+1596) (.str ⟨#[32]⟩ (tk+1642)) 1 (tk+1647) (.str ⟨#[]⟩ (tk+1653)) ++ ([spF U.P txt tt N tk, A9 [] 0] : List Obj)).map some) 1 0 []) /\ (Qo (L2 U txt tt N tk p below).c (L2 U txt tt N tk p below).κ = [D5 U.P 805 804 (N+884)]) /\ ∀ M K : Nat, Ev 330 U.W [] 0 M K [] [] 20 0 (L2 U txt tt N tk p below).c (L2 U txt tt N tk p below).κ (Cb (L2 U txt tt N tk p below).t (.ok (.ret .none)))
  [] (.fin (.ret (.ref (N+884+13)))) [] 0 0 [] := by
 obtain ⟨b, _⟩ := U; cases b <;> exact ⟨by kernel_rfl, fun p below => ⟨by kernel_rfl, by kernel_rfl, fun M K => by kernel_rfl⟩⟩
end
section
variable (U : Fl) (txt : Str) (tt : Nat) (N tk : Nat)
theorem Ajd (L : Nat) : (D5 U.P 805 804 L).scope.kind = .function := by kernel_rfl
end
section
variable {U : Fl} {txt : Str}
theorem Th (h2 : 2 <= txt.length) (hfit : txt.length <= sizeLine) (ds : List W2) (hok : ∀ d ∈ ds, d.ok) (ht : txt.cps.toList = Dl ds) (hl : ds.length <= 1000) {tt : Nat} {F : List (Nat × Obj)} {es : List Env}
  (hA : A.handled = none) (hD : A.depth <= 330) (hfr : A.frames = some es) (hF : I8 F es) (H : At U.W s F)
  (cont : ∀ s' S vs n sls, PyProof.Rows.StrsAre vs (ds.map fun d => ⟨⟨d.val⟩⟩) -> At U.W s' (Dy sls F ++ [(S, A9 vs n)]) -> Keeps (F.map (·.1)) s s' -> s.heap.objs.size <= S -> R (.ok (.ret (.ref S))) s') :
  codeAny (Ak U.W) A (.call (.ref 805) ⟨[.str txt tt], []⟩) R s := by
 obtain ⟨N, tk, hN, hT⟩ := H.NT
 let x := spX U.P tt N tk
 let P := U.P
 let O0 := x.objs txt 0 (tk+1596) (.str ⟨#[32]⟩ (tk+1642)) 1 (tk+1647) (.str ⟨#[]⟩ (tk+1653))
 let fr := spF P txt tt N tk
 have H0 : At U.W s ([] ++ F) := H
 refine Aa (C5 (W := [2, 1, 8, 7, 11, 12, 0].zip (O0 ++ [fr])) (R9 U txt tt N tk).1 hA hD H0.left rfl rfl rfl hN hT rfl rfl (by decide) (by decide) trivial ?_)
 intro s1 H1 K1 hT1 hSz1
 have H1a : At U.W s1 ((x.addrs ++ [N+884]).zip (O0 ++ [fr]) ++ F) := At.next H0 (L' := (x.addrs ++ [N+884]).zip (O0 ++ [fr])) H1 K1 (fun q hq => .inr (Nat.le_trans (Nat.le_of_eq hN) (Dd [2, 1, 8, 7, 11, 12, 0] (List.of_mem_zip hq).1)))
 intro p below hl0
 refine F9 (W := [0, 1, 2, 3, 4, 5, 6, 7].zip (O0 ++ [fr, A9 [] 0])) ((R9 U txt tt N tk).2 p below).1 hA hD H1a.left rfl rfl rfl (by lia) (by lia) rfl rfl (by decide) (by decide) trivial ?_
 intro s2 H2 K2 hT2 hSz2
 have H2a : At U.W s2 ((x.addrs ++ [N+884, N+884+13]).zip (O0 ++ [fr, A9 [] 0]) ++ F) := At.next H1a (L' := (x.addrs ++ [N+884, N+884+13]).zip (O0 ++ [fr, A9 [] 0])) (by
   have e : N + 13 + 884 = N + 884 + 13 := by lia
   have H2' := H2
   rw [e] at H2'
   exact H2') K2 (fun q hq => by
  rcases List.mem_append.mp (List.of_mem_zip hq).1 with h | h
  ·exact .inl (show q.1 ∈ x.addrs ++ [N+884] from List.mem_append_left _ h)
  ·rcases List.mem_cons.mp h with h | h
   ·exact .inl (show q.1 ∈ x.addrs ++ [N+884] from List.mem_append_right _ (by rw [h]; exact .head _))
   ·have h : q.1 = N+884+13 := List.mem_singleton.mp h
    right
    lia)
 intro A' hA' hD' _ hfr'
 have hfr2 := hfr' es hfr
 have e9 := ((R9 U txt tt N tk).2 p below).2.1
 have H2b : At U.W s2 (((N+884, fr) :: F) ++ LI x (N+884+13) txt 0 (tk+1596) (.str ⟨#[32]⟩ (tk+1642)) 1 (tk+1647) (.str ⟨#[]⟩ (tk+1653)) 0) := H2a.perm (by
  show List.Perm _ ((x.addrs.zip O0 ++ [(N+884, fr), (N+884+13, A9 [] 0)]) ++ F)
  show List.Perm (((N+884, fr) :: F) ++ (x.addrs.zip O0 ++ [(N+884+13, A9 [] 0)])) _
  refine List.perm_append_comm.trans ?_
  rw [List.append_assoc, List.append_assoc]
  refine List.Perm.append_left _ ?_
  exact List.Perm.swap _ _ _)
 refine Akg hA' (Dv hD' hD) H2b.drop ?_
 intro s3 H3 K3
 have H3a := H2b.swap H3 K3 rfl
 refine Aay h2 hfit ds [] 0 (tk+1596) (tk+69) 1 (tk+1647) (tk+1653) [] 2 A' s3 _ ((N+884, fr) :: F) (D5 P 805 804 (N+884) :: es) hok (by rw [ht]; rfl) rfl hA' (Dv hD' hD) (hfr2.trans (congrArg (fun l => some (l ++ es)) e9)) ⟨fun h => ScopeKind.noConfusion ((Ajd U (N + 884)).symm.trans h), rfl, (fun vs h => by cases h), hF⟩ (by show 0 + _ <= _; lia) (H3a.perm ?_) ?_
 ·show List.Perm (x.addrs.zip O0 ++ (((N+884, fr) :: F) ++ [(N+884+13, A9 [] 2)])) (((N+884, fr) :: F) ++ (x.addrs.zip O0 ++ [(N+884+13, A9 [] 2)]))
  rw [<- List.append_assoc, <- List.append_assoc]
  exact List.Perm.append_right _ List.perm_append_comm
 intro s4 vs n4 sls hvs H4 K4
 obtain ⟨N4, tk4, hN4, hT4⟩ := H4.NT
 have H4a : At U.W s4 ([] ++ ((N+884, { fr with slots := sls (N+884) }) :: (Dy sls F ++ [(N+884+13, A9 vs n4)]))) := H4
 refine C5 (W := []) (((R9 U txt tt N tk).2 p below).2.2 N4 tk4) hA hD H4a.left rfl rfl rfl hN4 hT4 rfl rfl List.nodup_nil (by intro j hj; cases hj) trivial ?_
 intro s5 H5 K5 _ _
 have H5a : At U.W s5 _ := At.next H4a (L' := []) H5 K5 (by intro q hq; cases hq)
 refine cont s5 (N+884+13) vs n4 sls hvs (H5a.sub (fun q hq => .tail _ hq) (List.nodup_cons.mp H5a.nd).2) ?_ (by lia)
 have kk : Keeps ((x.addrs ++ [N+884, N+884+13]) ++ F.map (·.1)) s1 s5 := by
  refine (K2.mono ?_).trans ((K3.mono ?_).trans ((K4.mono ?_).trans (K5.mono (by intro y hy; cases hy))))
  ·intro y hy
   refine List.mem_append_left _ ?_
   have : y ∈ x.addrs ++ [N+884] := hy
   rcases List.mem_append.mp this with h | h
   ·exact List.mem_append_left _ h
   ·refine List.mem_append_right _ ?_
    have : y = N+884 := by simpa using h
    simp [this]
  ·intro y hy
   refine List.mem_append_left _ ?_
   have : y ∈ x.addrs ++ [N+884+13] := hy
   rcases List.mem_append.mp this with h | h
   ·exact List.mem_append_left _ h
   ·refine List.mem_append_right _ ?_
    have : y = N+884+13 := by simpa using h
    simp [this]
  ·intro y hy
   rcases List.mem_cons.mp hy with rfl | hy
   ·exact List.mem_append_left _ (by simp)
   ·rcases List.mem_append.mp hy with hy | hy
    ·exact List.mem_append_left _ (List.mem_append_left _ hy)
    ·rcases List.mem_cons.mp hy with rfl | hy
     ·exact List.mem_append_left _ (by simp)
     ·exact List.mem_append_right _ hy
 refine Keeps.trans_new (Y := x.addrs ++ [N+884, N+884+13]) (K1.mono (by intro y hy; cases hy)) kk ?_
 intro y hy
 have : y = N+884+2 \/ y = N+884+1 \/ y = N+884+8 \/ y = N+884+7 \/ y = N+884+11 \/ y = N+884+12 \/ y = N+884 \/ y = N+884+13 := by simpa [x, spX, SX.addrs] using hy
 lia
end
end Mine
section
open PySem.SeqAt
namespace Mine
theorem At.up8 {w : World} {F : List (Nat × Obj)} {p0 p1 p2 p3 p4 p5 p6 p7 a : Nat × Obj} (H : At w s (p0 :: p1 :: p2 :: p3 :: p4 :: p5 :: p6 :: p7 :: a :: F)) : At w s (a :: p0 :: p1 :: p2 :: p3 :: p4 :: p5 :: p6 :: p7 :: F) := H.perm (List.perm_middle (l₁ := [p0, p1, p2, p3, p4, p5, p6, p7])).symm
theorem At.up9 {w : World} {F : List (Nat × Obj)} {p0 p1 p2 p3 p4 p5 p6 p7 p8 a : Nat × Obj} (H : At w s (p0 :: p1 :: p2 :: p3 :: p4 :: p5 :: p6 :: p7 :: p8 :: a :: F)) : At w s (a :: p0 :: p1 :: p2 :: p3 :: p4 :: p5 :: p6 :: p7 :: p8 :: F) := H.perm (List.perm_middle (l₁ := [p0, p1, p2, p3, p4, p5, p6, p7, p8])).symm
theorem At.up10 {w : World} {F : List (Nat × Obj)} {p0 p1 p2 p3 p4 p5 p6 p7 p8 p9 a : Nat × Obj} (H : At w s (p0 :: p1 :: p2 :: p3 :: p4 :: p5 :: p6 :: p7 :: p8 :: p9 :: a :: F)) : At w s (a :: p0 :: p1 :: p2 :: p3 :: p4 :: p5 :: p6 :: p7 :: p8 :: p9 :: F) := H.perm (List.perm_middle (l₁ := [p0, p1, p2, p3, p4, p5, p6, p7, p8, p9])).symm
theorem At.up11 {w : World} {F : List (Nat × Obj)} {p0 p1 p2 p3 p4 p5 p6 p7 p8 p9 p10 a : Nat × Obj} (H : At w s (p0 :: p1 :: p2 :: p3 :: p4 :: p5 :: p6 :: p7 :: p8 :: p9 :: p10 :: a :: F)) : At w s (a :: p0 :: p1 :: p2 :: p3 :: p4 :: p5 :: p6 :: p7 :: p8 :: p9 :: p10 :: F) := H.perm (List.perm_middle (l₁ := [p0, p1, p2, p3, p4, p5, p6, p7, p8, p9, p10])).symm
theorem At.up12 {w : World} {F : List (Nat × Obj)} {p0 p1 p2 p3 p4 p5 p6 p7 p8 p9 p10 p11 a : Nat × Obj} (H : At w s (p0 :: p1 :: p2 :: p3 :: p4 :: p5 :: p6 :: p7 :: p8 :: p9 :: p10 :: p11 :: a :: F)) : At w s (a :: p0 :: p1 :: p2 :: p3 :: p4 :: p5 :: p6 :: p7 :: p8 :: p9 :: p10 :: p11 :: F) := H.perm (List.perm_middle (l₁ := [p0, p1, p2, p3, p4, p5, p6, p7, p8, p9, p10, p11])).symm
theorem At.up13 {w : World} {F : List (Nat × Obj)} {p0 p1 p2 p3 p4 p5 p6 p7 p8 p9 p10 p11 p12 a : Nat × Obj} (H : At w s (p0 :: p1 :: p2 :: p3 :: p4 :: p5 :: p6 :: p7 :: p8 :: p9 :: p10 :: p11 :: p12 :: a :: F)) : At w s (a :: p0 :: p1 :: p2 :: p3 :: p4 :: p5 :: p6 :: p7 :: p8 :: p9 :: p10 :: p11 :: p12 :: F) := H.perm (List.perm_middle (l₁ := [p0, p1, p2, p3, p4, p5, p6, p7, p8, p9, p10, p11, p12])).symm
theorem At.up14 {w : World} {F : List (Nat × Obj)} {p0 p1 p2 p3 p4 p5 p6 p7 p8 p9 p10 p11 p12 p13 a : Nat × Obj} (H : At w s (p0 :: p1 :: p2 :: p3 :: p4 :: p5 :: p6 :: p7 :: p8 :: p9 :: p10 :: p11 :: p12 :: p13 :: a :: F)) : At w s (a :: p0 :: p1 :: p2 :: p3 :: p4 :: p5 :: p6 :: p7 :: p8 :: p9 :: p10 :: p11 :: p12 :: p13 :: F) := H.perm (List.perm_middle (l₁ := [p0, p1, p2, p3, p4, p5, p6, p7, p8, p9, p10, p11, p12, p13])).symm
structure KN (X : List Nat) (B : Nat) (s s' : Shared) : Prop where
 keep : ∀ b o, b < B -> b ∉ X -> s.heap.get? b = some o -> s'.heap.get? b = some o
 size : s.heap.objs.size <= s'.heap.objs.size
 dr : s'.drawn = s.drawn
 os : s'.os = s.os
theorem KN.trans {X : List Nat} {B : Nat} {s s' s'' : Shared} (a : KN X B s s') (b : KN X B s' s'') : KN X B s s'' :=
 ⟨fun c o h n e => b.keep _ _ h n (a.keep _ _ h n e), Nat.le_trans a.size b.size, b.dr.trans a.dr, b.os.trans a.os⟩
theorem Keeps.kn {X Y : List Nat} {B : Nat} {s s' : Shared} (a : Keeps Y s s') (h : ∀ y ∈ Y, B <= y \/ y ∈ X) : KN X B s s' :=
 ⟨fun c o hb n e => a.keep _ _ e fun m => (h _ m).elim (fun h => Nat.not_lt.mpr h hb) n, a.size, a.dr, a.os⟩
theorem KN.keeps {X : List Nat} {B : Nat} {s s' : Shared} (a : KN X B s s') (h : s.heap.objs.size <= B) : Keeps X s s' :=
 ⟨fun c o e n => a.keep _ _ (Nat.lt_of_lt_of_le (Heap.lt_size e) h) n e, a.size, a.dr, a.os⟩
theorem Kq {w : World} {L : List (Nat × Obj)} (H : At w s L) {y : Nat} (h : y ∈ L.map (·.1)) : 885 <= y \/ y ∈ [884, 847, 105] := by
 obtain ⟨p, hp, rfl⟩ := List.mem_map.mp h
 have := H.hi p hp
 simp only [List.mem_cons, List.not_mem_nil, or_false]
 lia
theorem P0 {α : Type} (A B C : List α) : List.Perm (B ++ (C ++ A)) (A ++ (B ++ C)) := by
 rw [<- List.append_assoc]
 exact List.perm_append_comm
theorem At.rot {w : World} {A B C : List (Nat × Obj)} (H : At w s (A ++ (B ++ C))) : At w s (B ++ (C ++ A)) := H.perm (P0 A B C)
theorem At.dis {w : World} {X A B C : List (Nat × Obj)} (H : At w s (X ++ (A ++ (B ++ C)))) : ∀ q ∈ A, ∀ q' ∈ B, q.1 ≠ q'.1 := by
 intro q hq q' hq'
 have nd := H.nd
 simp only [List.map_append] at nd
 have n1 := (List.nodup_append.mp nd).2.1
 exact (List.nodup_append.mp n1).2.2 _ (List.mem_map_of_mem hq) _ (List.mem_append_left _ (List.mem_map_of_mem hq'))
theorem Abe : ∀ (W : List (List Nat)) (k : Nat), (∀ j u, W[j]? = some u -> WK (k + j) u) -> ∀ d ∈ Ej k W, d.ok
 | [], _, _, d, hd => by cases hd
 | u :: W, k, h, d, hd => by
  rcases List.mem_cons.mp hd with rfl | hd
  ·exact Af8 (h 0 u rfl)
  ·exact Abe W (k + 1) (fun j v e => by
    have := h (j + 1) v (by simpa using e)
    rwa [show k + (j + 1) = k + 1 + j from by lia] at this) d hd
theorem Wf : ∀ (W : List (List Nat)) (k : Nat), (Ej k W).length = W.length
 | [], _ => rfl
 | u :: W, k => by simp [Ej, Wf W (k + 1)]
theorem Uy : ∀ (W : List (List Nat)) (k : Nat), ((Ej k W).map fun d => (⟨⟨d.val⟩⟩ : Str)) = W.map S8
 | [], _ => rfl
 | u :: W, k => by
  simp only [Ej, List.map_cons, Uy W (k + 1), Ady]
  rfl
theorem W0 : ∀ (W : List (List Nat)) (k : Nat), (∀ j u, W[j]? = some u -> WK (k + j) u) -> W.length <= (Dl (Ej k W)).length /\ (Dl (Ej k W)).length <= 20 * W.length
 | [], _, _ => ⟨Nat.le_refl _, Nat.le_refl _⟩
 | u :: W, k, h => by
  have ih := W0 W (k + 1) (fun j v e => by
    have := h (j + 1) v (by simpa using e)
    rwa [show k + (j + 1) = k + 1 + j from by lia] at this)
  have e := Qx (h 0 u rfl)
  have e1 : 1 <= (Gt k u).enc.length := by
   rcases hx : (Gt k u).enc with _ | ⟨a, l⟩
   ·exact absurd hx e.2
   ·simp
  have ec : Dl (Ej k (u :: W)) = (Gt k u).enc ++ Dl (Ej (k + 1) W) := rfl
  rw [ec, List.length_append, List.length_cons]
  have e20 : (Gt k u).enc.length <= 20 := e.1
  lia
section
variable {U : Fl} {A : Around} {s : Shared} {R : Result -> Shared -> Prop} {L CE CT D it acc : Nat}
theorem Oy {l : Nat} (h : s.heap.get? it = some (Bh l 0 none #[])) (key : codeAny (Ak U.W) A (D3 U.P L CE CT D it acc) R s) : codeAny (Ak U.W) A (Ka U.P L CE CT D it acc) R s := by
 rw [Ow]
 rw [Hk] at key
 exact codeAny_compStart_list key (wpAny_pyIter_listiter ⟨_, h, rfl, rfl⟩ key)
theorem P9 {x l : Int} (h : s.heap.get? it = some (Bz x l)) (key : codeAny (Ak U.W) A (D1 U.P L CE CT D it acc) R s) : codeAny (Ak U.W) A (Kb U.P L CE CT D it acc) R s := by
 rw [P5]
 rw [Hn] at key
 exact codeAny_compStart_list key (wpAny_pyIter_rangeiter (x := x) (left := l) (step := 1) h key)
end
theorem Tm (xs : List Int) : 2 <= ((xs.take 3 ++ [139, 700]).map B1).length /\ ((xs.take 3 ++ [139, 700]).map B1).length <= 5 := by
 simp
 lia
section
variable {U : Fl}
theorem Uo {c : Code} {a b n m : Nat} {vs vs' : List Value} {Ts Ts' : List (Nat × Obj)} {rs : List (Option (List Nat × List Nat))} {Q : Value -> Shared -> Prop} {E : Value -> Shared -> Prop} (h : AnsAre vs Ts rs) (h' : AnsAre vs' Ts' rs) (hu : A.units <= 9000) (ha : s.heap.get? a = some (A9 vs n)) (hb : s.heap.get? b = some (A9 vs' m)) (ho : ∀ q ∈ Ts, s.heap.get? q.1 = some q.2) (ho' : ∀ q ∈ Ts', s.heap.get? q.1 = some q.2) (hd : ∀ q ∈ Ts, ∀ q' ∈ Ts', q.1 ≠ q'.1)
  (hQ : Q (.bool true) s) : wpOwn (Ak U.W) A c (compareOp .Eq (.ref a) (.ref b)) Q E s := by
 have l1 := h.len
 have l2 := h'.len
 have hcu := Ea c
 have hcl : cLine = 9900 := rfl
 have hu2 : (A.under c).units < cLine := by
  show A.units + c.cUnits < cLine
  lia
 refine Cr (eq_listAt (e := fun _ => true) (E7 ha) (E7 hb) (by simp [l1, l2]) hu2 ?_ ?_)
 ·intro j h1 h2
  have h1' : j < vs.length := by simpa using h1
  have h2' : j < vs'.length := by simpa using h2
  have := U4 (A := (A.under c).in1) (s := s) (by show A.units + c.cUnits + 1 < cLine; lia) h h' ho ho' hd j h1' h2'
  simpa using this
 ·rw [I0]
  exact hQ
theorem Q7 {c : Code} {a b TL SL WL n m nt ns nw : Nat} {xt xs xw : List Value} {V : List Str} {Q : Value -> Shared -> Prop} {E : Value -> Shared -> Prop} (hu : A.units <= 9000) (ha : s.heap.get? a = some (A9 [.ref TL, .ref SL] n)) (hb : s.heap.get? b = some (A9 [.ref WL, .ref WL] m)) (ht : s.heap.get? TL = some (A9 xt nt)) (hs : s.heap.get? SL = some (A9 xs ns)) (hw : s.heap.get? WL = some (A9 xw nw))
  (h1 : StrsAre xt V) (h2 : StrsAre xs V) (h3 : StrsAre xw V) (n1 : TL ≠ WL) (n2 : SL ≠ WL) (hQ : Q (.bool false) s) : wpOwn (Ak U.W) A c (compareOp .NotEq (.ref a) (.ref b)) Q E s := by
 have hcu := Ea c
 have hcl : cLine = 9900 := rfl
 have hu2 : (A.under c).units < cLine := by
  show A.units + c.cUnits < cLine
  lia
 have hu3 : (A.under c).in1.units < cLine := by
  show A.units + c.cUnits + 1 < cLine
  lia
 refine Cr ?_
 have key := RcNeAt.lists (A := A.under c) (s := s) (e := fun _ => true) (E7 ha) (E7 hb) rfl hu2 (by
  intro j g1 g2
  have g1' : j < 2 := by simpa using g1
  match j, g1' with
  | 0, _ => exact M4 ht hw h1 h3 n1 hu3
  | 1, _ => exact M4 hs hw h2 h3 n2 hu3)
 rw [I0] at key
 exact key _ _ E Q hQ
theorem Ad4 {S n : Nat} {vs : List Value} {xs : List Int} (hI : IntsV vs xs) (hlen : vs.length <= 900) (hA : A.handled = none) (hD : A.depth <= 301) (hU : A.units <= 4000) (hfr : A.frames = some []) (hS : S = 884) (hs0 : s.heap.objs.size = 885) (H : At U.W s [(S, A9 vs n), (847, B9), (105, B9)])
  (cont : ∀ s' o7 tb, Tb7 o7 -> Du tb -> At U.W s' [(S, A9 vs n), (847, o7), (105, tb)] -> Keeps [884, 847, 105] s s' -> R (.ok (.ret (.bool true))) s') :
  codeAny (Ak U.W) A (.call (.ref 883) ⟨[.ref S], []⟩) R s := by
 obtain ⟨N, tk, hN, hT⟩ := H.NT
 have hN1 : N = 1 := by lia
 obtain ⟨es, hes⟩ : ∃ es, es = (xs.take 3 ++ [139, 700]).map B1 := ⟨_, rfl⟩
 have h2 : 2 <= es.length := by rw [hes]; exact (Tm xs).1
 have h5 : es.length <= 5 := by rw [hes]; exact (Tm xs).2
 have hok : ∀ e ∈ es, Nw e := by
  intro e he
  rw [hes] at he
  obtain ⟨x, _, rfl⟩ := List.mem_map.mp he
  exact Vd x
 have hk8 : ∀ e ∈ es, e.k < 8 := fun e he => (hok e he).1
 refine Aa (C5 (L := []) (W := [0, 1, 2].zip [_, _, _]) (Ak2 U N tk S) hA (dl hD) H.nil rfl rfl rfl hN hT rfl rfl (by decide) (by decide) trivial ?_)
 intro s1 H1 K1 _ _
 have H1a : At U.W s1 (((N+884), Ft U.P (tk+1573) S) :: ((N+884+1), A7 none) :: ((N+884+2), A7 none) :: (S, A9 vs n) :: (847, B9) :: (105, B9) :: []) := At.next (L := []) H H1 K1 (fun q hq => by
  right
  have h : q.1 ∈ [N+884, N+884+1, N+884+2] := List.mem_map_of_mem (f := (·.1)) hq
  simp only [List.mem_cons, List.not_mem_nil, or_false] at h
  lia)
 refine ⟨rfl, ?_⟩
 unfold Nt
 refine Lz ?_
 rw [Xz]
 generalize tk+1573 = t1 at H1a
 refine Bn ?_
 obtain ⟨N2, tk2, hN2, hT2⟩ := H1a.NT
 refine Bm (Bj (Au (olds := [(N+884), (N+884+1), (N+884+2)]) (Abt U N2 tk2 (N+884) (N+884+1) (N+884+2) t1 S) hA (dl hD) H1a rfl rfl rfl rfl hN2 hT2 trivial ?_))
 intro s2 H2 K2 _ _
 intro A2 hA2 hD2
 refine Q0 hI hlen hA2 (Dv hD2 hD) (At.up3 H2) ?_
 intro s3 EL T nE hE H3 K3
 rw [<- hes] at hE
 have H3a : At U.W s3 (((N+884), Ft U.P t1 S) :: ((N+884+1), A7 none) :: ((N+884+2), A7 none) :: (EL, A9 (Ab T) nE) :: (T ++ ((S, A9 vs n) :: (847, B9) :: (105, B9) :: []))) := by
  have z : At U.W s3 (((EL, A9 (Ab T) nE) :: T) ++ ([(S, A9 vs n), ((N+884), Ft U.P t1 S), ((N+884+1), A7 none), ((N+884+2), A7 none)] ++ [(847, B9), (105, B9)])) := H3
  have z2 : At U.W s3 (([((N+884), Ft U.P t1 S), ((N+884+1), A7 none), ((N+884+2), A7 none), (S, A9 vs n)]) ++ (((EL, A9 (Ab T) nE) :: T) ++ [(847, B9), (105, B9)])) := (At.sw z).up3.up3.up3
  have z3 : At U.W s3 ([((N+884), Ft U.P t1 S), ((N+884+1), A7 none), ((N+884+2), A7 none)] ++ ([(S, A9 vs n)] ++ (((EL, A9 (Ab T) nE) :: T) ++ [(847, B9), (105, B9)]))) := z2
  exact z3.perm (List.Perm.append_left [((N+884), Ft U.P t1 S), ((N+884+1), A7 none), ((N+884+2), A7 none)] (Fh ((EL, A9 (Ab T) nE) :: T) [(S, A9 vs n)] [(847, B9), (105, B9)]))
 obtain ⟨N3, tk3, hN3, hT3⟩ := H3a.NT
 refine Au (olds := [(N+884), (N+884+1), (N+884+2)]) (Aak U N2 tk2 (N+884) (N+884+1) (N+884+2) t1 S EL N3 tk3) hA (dl hD) H3a rfl rfl rfl rfl hN3 hT3 trivial ?_
 intro s4 H4 K4 _ _
 refine Bn ?_
 have H4a : At U.W s4 (((N+884), Ft U.P t1 S) :: ((N+884+1), A7 (some (.ref EL))) :: ((N+884+2), A7 none) :: (EL, A9 (Ab T) nE) :: (T ++ ((S, A9 vs n) :: (847, B9) :: (105, B9) :: []))) := H4
 obtain ⟨N4, tk4, hN4, hT4⟩ := H4a.NT
 refine Bm (Bj (Au (olds := [(N+884), (N+884+1), (N+884+2)]) (Ac1 U N4 tk4 (N+884) (N+884+1) (N+884+2) t1 S EL) hA (dl hD) H4a rfl rfl rfl rfl hN4 hT4 trivial ?_))
 intro s5 H5 K5 _ _
 intro A5 hA5 hD5
 have H5a : At U.W s5 ([(EL, A9 (Ab T) nE)] ++ (T ++ (((N+884), Ft U.P t1 S) :: ((N+884+1), A7 (some (.ref EL))) :: ((N+884+2), A7 none) :: (S, A9 vs n) :: (847, B9) :: (105, B9) :: []))) := by
  have z : At U.W s5 ([((N+884), Ft U.P t1 S), ((N+884+1), A7 (some (.ref EL))), ((N+884+2), A7 none)] ++ (((EL, A9 (Ab T) nE) :: T) ++ [(S, A9 vs n), (847, B9), (105, B9)])) := H5
  have zz := At.sw z
  exact zz
 refine W7 hE hk8 h2 h5 hA5 (Dv hD5 hD) H5a ?_
 intro s6 WL xw nw hW H6 K6 hWL
 have H6a : At U.W s6 (((N+884), Ft U.P t1 S) :: ((N+884+1), A7 (some (.ref EL))) :: ((N+884+2), A7 none) :: (WL, A9 xw nw) :: (EL, A9 (Ab T) nE) :: (T ++ ((S, A9 vs n) :: (847, B9) :: (105, B9) :: []))) := by
  have z : At U.W s6 (((WL, A9 xw nw) :: (EL, A9 (Ab T) nE) :: T) ++ ([((N+884), Ft U.P t1 S), ((N+884+1), A7 (some (.ref EL))), ((N+884+2), A7 none)] ++ [(S, A9 vs n), (847, B9), (105, B9)])) := H6
  have zz := At.sw z
  exact zz
 obtain ⟨N6, tk6, hN6, hT6⟩ := H6a.NT
 refine Au (olds := [(N+884), (N+884+1), (N+884+2)]) (Y7 U N4 tk4 (N+884) (N+884+1) (N+884+2) t1 S EL WL N6 tk6) hA (dl hD) H6a rfl rfl rfl rfl hN6 hT6 trivial ?_
 intro s7 H7 K7 _ _
 refine Bn ?_
 have H7a : At U.W s7 (((N+884), Qg U.P t1 S (tk6+1573) WL) :: ((N+884+1), A7 (some (.ref EL))) :: ((N+884+2), A7 none) :: (WL, A9 xw nw) :: (EL, A9 (Ab T) nE) :: (T ++ ((S, A9 vs n) :: (847, B9) :: (105, B9) :: []))) := H7
 generalize tk6+1573 = t2 at H7a
 obtain ⟨N7, tk7, hN7, hT7⟩ := H7a.NT
 refine Bm (Bj (F9 (W := [0, 1, 2].zip [_, _, _]) (Afh U N7 tk7 (N+884) (N+884+1) (N+884+2) t1 S t2 WL EL) hA (dl hD) (H7a.left (L := [_, _, _])) rfl rfl rfl hN7 hT7 rfl rfl (by decide) (by decide) trivial ?_))
 intro s8 H8 K8 _ _
 have H8a := At.next (L := [((N+884), Qg U.P t1 S t2 WL), ((N+884+1), A7 (some (.ref EL))), ((N+884+2), A7 none)]) H7a H8 K8 (fun q hq => .inl (List.mem_map_of_mem (f := (·.1)) hq))
 intro A8 hA8 hD8 hU8 _
 refine Y0 hW hok h2 h5 hA8 (Dv hD8 hD) (by lia) (At.up3 H8a) ?_
 intro s9 txt xt htxt H9 K9
 have H9a : At U.W s9 (((N+884), Qg U.P t1 S t2 WL) :: ((N+884+1), A7 (some (.ref EL))) :: ((N+884+2), A7 none) :: (WL, A9 xw nw) :: (EL, A9 (Ab T) nE) :: (T ++ ((S, A9 vs n) :: (847, B9) :: (105, B9) :: []))) := (At.up3 H9).up3.up3
 obtain ⟨N9, tk9, hN9, hT9⟩ := H9a.NT
 refine Au (olds := [(N+884), (N+884+1), (N+884+2)]) (Ws U N7 tk7 (N+884) (N+884+1) (N+884+2) t1 S t2 WL EL xt N9 tk9 txt) hA (dl hD) H9a rfl rfl rfl rfl hN9 hT9 trivial ?_
 intro s10 H10 K10 _ _
 refine Bn ?_
 have H10a : At U.W s10 (((N+884), Km U.P t1 S t2 WL (tk9+1573) (.str txt xt)) :: ((N+884+1), A7 (some (.ref EL))) :: ((N+884+2), A7 none) :: (WL, A9 xw nw) :: (EL, A9 (Ab T) nE) :: (T ++ ((S, A9 vs n) :: (847, B9) :: (105, B9) :: []))) := H10
 generalize tk9+1573 = t3 at H10a
 have q0 : KN [884, 847, 105] 885 s s1 := K1.kn (by intro y hy; cases hy)
 have exn : ∀ y, y = N+884 \/ y = N+884+1 \/ y = N+884+2 -> 885 <= y \/ y ∈ [884, 847, 105] := by intro y hy; left; lia
 have ex3 : ∀ y ∈ [N+884, N+884+1, N+884+2], 885 <= y \/ y ∈ [884, 847, 105] := by intro y hy; simp only [List.mem_cons, List.not_mem_nil, or_false] at hy; exact exn y hy
 have q10 : KN [884, 847, 105] 885 s s10 := by
  refine q0.trans ((K2.kn ex3).trans ((K3.kn ?_).trans ((K4.kn ex3).trans ((K5.kn ex3).trans ((K6.kn ?_).trans ((K7.kn ex3).trans ((K8.kn ex3).trans ((K9.kn ?_).trans (K10.kn ex3)))))))))
  ·intro y hy; right; simp only [List.mem_cons, List.not_mem_nil, or_false] at hy; simp [hy, hS]
  ·intro y hy
   exact Kq H5a (by
    rcases List.mem_cons.mp hy with rfl | h
    ·exact .head _
    ·rw [List.map_append, List.map_append]
     exact List.mem_append_right _ (List.mem_append_left _ h))
  ·intro y hy; simp only [List.mem_cons, List.not_mem_nil, or_false] at hy; rw [hy]; exact Kq (At.up3 H8a) (.head _)
 clear K1 K2 K3 K4 K5 K6 K7 K8 K9 K10 q0 H1 H2 H3 H4 H5 H6 H7 H8 H9 H10 H1a H3a H4a H5a H6a H7a H8a H9a
 have hwk : ∀ j u, (Aq es)[j]? = some u -> WK (0 + j) u := by
  intro j u e
  rw [Nat.zero_add]
  exact P3 hok h2 h5 e
 have hwl := Hq es
 have hw900 : 12 <= (Aq es).length /\ (Aq es).length <= 40 := by rw [hwl]; split <;> lia
 have henc := W0 _ _ hwk
 have htl : txt.length = (Dl (Ej 0 (Aq es))).length := by rw [<- htxt]; show txt.cps.size = _; simp
 have hdok := Abe _ _ hwk
 have hdl := Wf (Aq es) 0
 have hdv := Uy (Aq es) 0
 have hdne : Ej 0 (Aq es) ≠ [] := by
  intro q
  rw [q] at hdl
  simp at hdl
  lia
 obtain ⟨N10, tk10, hN10, hT10⟩ := H10a.NT
 refine Bm (Bj (Au (olds := [(N+884), (N+884+1), (N+884+2)]) (Ae5 U N10 tk10 (N+884) (N+884+1) (N+884+2) t1 S t2 WL EL t3 xt txt) hA (dl hD) H10a rfl rfl rfl rfl hN10 hT10 trivial ?_))
 intro s11 H11 K11 _ _
 intro A11 hA11 hD11
 have H11a : At U.W s11 ([(847, B9)] ++ ((S, A9 vs n) :: ((((N+884), Km U.P t1 S t2 WL t3 (.str txt xt)) :: ((N+884+1), A7 (some (.ref EL))) :: ((N+884+2), A7 none) :: (WL, A9 xw nw) :: (EL, A9 (Ab T) nE) :: T) ++ [(105, B9)]))) := by
  have z : At U.W s11 ((((N+884), Km U.P t1 S t2 WL t3 (.str txt xt)) :: ((N+884+1), A7 (some (.ref EL))) :: ((N+884+2), A7 none) :: (WL, A9 xw nw) :: (EL, A9 (Ab T) nE) :: T) ++ ([(S, A9 vs n), (847, B9)] ++ [(105, B9)])) := H11
  exact At.up1 (At.sw z)
 refine Sq (by lia) _ hdok hdne htxt (by lia) hA11 (Dv hD11 hD) H11a ?_
 intro s12 Tt TL xt2 nT tl o7 hTL hT7 H12 K12 _
 have H12a : At U.W s12 (((N+884), Km U.P t1 S t2 WL t3 (.str txt xt)) :: ((N+884+1), A7 (some (.ref EL))) :: ((N+884+2), A7 none) :: (Tt, Ek [.ref TL, .int (Di 1 (Ej 0 (Aq es))) tl]) :: (TL, A9 xt2 nT) :: (WL, A9 xw nw) :: (S, A9 vs n) :: (847, o7) :: (105, B9) :: (EL, A9 (Ab T) nE) :: T) := by
  have z : At U.W s12 (((Tt, Ek [.ref TL, .int (Di 1 (Ej 0 (Aq es))) tl]) :: (TL, A9 xt2 nT) :: (847, o7) :: (S, A9 vs n) :: ((N+884), Km U.P t1 S t2 WL t3 (.str txt xt)) :: ((N+884+1), A7 (some (.ref EL))) :: ((N+884+2), A7 none) :: (WL, A9 xw nw) :: []) ++ (((EL, A9 (Ab T) nE) :: T) ++ [(105, B9)])) := H12
  have z2 := At.rot z
  have z3 : At U.W s12 (((EL, A9 (Ab T) nE) :: T) ++ ([(105, B9), (Tt, Ek [.ref TL, .int (Di 1 (Ej 0 (Aq es))) tl]), (TL, A9 xt2 nT), (847, o7), (S, A9 vs n), ((N+884), Km U.P t1 S t2 WL t3 (.str txt xt)), ((N+884+1), A7 (some (.ref EL))), ((N+884+2), A7 none), (WL, A9 xw nw)] ++ [])) := z2
  have z4 : At U.W s12 ([(105, B9), (Tt, Ek [.ref TL, .int (Di 1 (Ej 0 (Aq es))) tl]), (TL, A9 xt2 nT), (847, o7), (S, A9 vs n), ((N+884), Km U.P t1 S t2 WL t3 (.str txt xt)), ((N+884+1), A7 (some (.ref EL))), ((N+884+2), A7 none), (WL, A9 xw nw)] ++ ((EL, A9 (Ab T) nE) :: T)) := by
   have := At.sw z3
   rwa [List.append_nil] at this
  exact z4.up3.up4.up8.up5.up5.up8.up8.up8
 obtain ⟨ln, hln⟩ : ∃ ln, ln = Di 1 (Ej 0 (Aq es)) := ⟨_, rfl⟩
 rw [<- hln] at H12a
 obtain ⟨N12, tk12, hN12, hT12⟩ := H12a.NT
 refine Au (olds := [(N+884), (N+884+1), (N+884+2), Tt]) (Z4 U N10 tk10 (N+884) (N+884+1) (N+884+2) t1 S t2 WL EL t3 xt Tt TL tl N12 tk12 txt ln) hA (dl hD) H12a rfl rfl rfl rfl hN12 hT12 trivial ?_
 intro s13 H13 K13 _ _
 have H13b : At U.W s13 (((N+884), Cl U.P t1 S t2 WL t3 (.str txt xt) (tk12+1573) (.int ln tl) #[]) :: ((N+884+1), A7 (some (.ref EL))) :: ((N+884+2), A7 (some (.ref TL))) :: (TL, A9 xt2 nT) :: (WL, A9 xw nw) :: (S, A9 vs n) :: (847, o7) :: (105, B9) :: (EL, A9 (Ab T) nE) :: T) := (At.up3 H13).tl
 generalize tk12+1573 = t4 at H13b
 have q13 : KN [884, 847, 105] 885 s s13 := by
  refine q10.trans ((K11.kn ex3).trans ((K12.kn ?_).trans (K13.kn ?_)))
  ·intro y hy; right; simp only [List.mem_cons, List.not_mem_nil, or_false] at hy; simp [hy]
  ·intro y hy; exact Kq H12a (by simp only [List.mem_cons, List.not_mem_nil, or_false] at hy; rcases hy with h | h | h | h <;> simp [h])
 clear K11 K12 K13 H10a H11 H11a H12 H12a H13 q10
 refine B4 ?_
 rw [Ajp]
 refine Fr (Sd ?_)
 have e1 : ∀ e, PySem.isTrue (It U.P) (C9 U.P (N+884) (N+884+1) (N+884+2)) e = PySem.isTrue (.Compare (C2 (It U.P)) [.NotEq] [Bi (It U.P)] (Lo (It U.P))) (C9 U.P (N+884) (N+884+1) (N+884+2)) e := fun e => congrArg (fun x => PySem.isTrue x (C9 U.P (N+884) (N+884+1) (N+884+2)) e) (Aj0 U)
 rw [e1]
 refine J6 (Akf U) ?_
 obtain ⟨N13, tk13, hN13, hT13⟩ := H13b.NT
 refine Bf (Br (F9 (W := [0, 1, 2].zip [_, _, _]) (Ad1 U N13 tk13 (N+884) (N+884+1) (N+884+2) t1 S t2 WL EL t3 xt t4 tl TL txt ln #[]) hA (dl hD) (H13b.left (L := [_, _, _])) rfl rfl rfl hN13 hT13 rfl rfl (by decide) (by decide) trivial ?_))
 intro s14 H14 K14 _ _
 have H14a : At U.W s14 ([((N+884), Cl U.P t1 S t2 WL t3 (.str txt xt) t4 (.int ln tl) #[])] ++ (((N+884+1), A7 (some (.ref EL))) :: ((N+884+2), A7 (some (.ref TL))) :: (TL, A9 xt2 nT) :: (WL, A9 xw nw) :: (S, A9 vs n) :: (847, o7) :: (105, B9) :: (EL, A9 (Ab T) nE) :: T)) := by
  have z := At.next (L := [((N+884), Cl U.P t1 S t2 WL t3 (.str txt xt) t4 (.int ln tl) #[]), ((N+884+1), A7 (some (.ref EL))), ((N+884+2), A7 (some (.ref TL)))]) H13b H14 K14 (fun q hq => .inl (List.mem_map_of_mem (f := (·.1)) hq))
  exact z
 intro A14 hA14 hD14 _ hfr14
 have hfr15 : A14.frames = some [(C9 U.P (N+884) (N+884+1) (N+884+2))] := (hfr14 [] hfr).trans (congrArg (fun l => some (l ++ [])) (Ae1 U N13 tk13 (N+884) (N+884+1) (N+884+2) t1 S t2 WL EL t3 xt t4 tl TL txt ln #[]))
 refine Th (by lia) (by have : sizeLine = 16777216 := rfl; lia) _ hdok htxt (by lia) hA14 (Dv hD14 hD) hfr15 (F := [((N+884), Cl U.P t1 S t2 WL t3 (.str txt xt) t4 (.int ln tl) #[])]) ⟨(by rw [Ak1]; decide), Ag7 U _ _ _, (fun vs h => by cases h), trivial⟩ H14a.left ?_
 intro s15 SL xs2 nS sls hSL H15 K15 hSLn
 have H15a : At U.W s15 (((N+884), Cl U.P t1 S t2 WL t3 (.str txt xt) t4 (.int ln tl) (sls (N+884))) :: (SL, A9 xs2 nS) :: ((N+884+1), A7 (some (.ref EL))) :: ((N+884+2), A7 (some (.ref TL))) :: (TL, A9 xt2 nT) :: (WL, A9 xw nw) :: (S, A9 vs n) :: (847, o7) :: (105, B9) :: (EL, A9 (Ab T) nE) :: T) := by
  have z := At.next (L' := [((N+884), Cl U.P t1 S t2 WL t3 (.str txt xt) t4 (.int ln tl) (sls (N+884))), (SL, A9 xs2 nS)]) H14a H15 K15 (fun q hq => by
   have h : q.1 ∈ [(N+884), SL] := List.mem_map_of_mem (f := (·.1)) hq
   simp only [List.mem_cons, List.not_mem_nil, or_false] at h
   rcases h with h | h
   ·left; rw [h]; exact .head _
   ·right; lia)
  exact z
 generalize sls (N+884) = sl at H15a
 obtain ⟨N15, tk15, hN15, hT15⟩ := H15a.NT
 refine C5 (L := []) (W := [(0, _)]) (Aag U N13 tk13 (N+884) (N+884+1) (N+884+2) t1 S t2 WL EL t3 xt t4 tl TL txt ln #[] SL N15 tk15) hA (dl hD) H15a.nil rfl rfl rfl hN15 hT15 rfl rfl (by decide) (by decide) trivial ?_
 intro s16 H16 K16 _ _
 have H16a : At U.W s16 ((N15+884, A9 [.ref TL, .ref SL] 0) :: ((N+884), Cl U.P t1 S t2 WL t3 (.str txt xt) t4 (.int ln tl) sl) :: (SL, A9 xs2 nS) :: ((N+884+1), A7 (some (.ref EL))) :: ((N+884+2), A7 (some (.ref TL))) :: (TL, A9 xt2 nT) :: (WL, A9 xw nw) :: (S, A9 vs n) :: (847, o7) :: (105, B9) :: (EL, A9 (Ab T) nE) :: T) := At.next (L := []) (L' := [(N15+884, A9 [.ref TL, .ref SL] 0)]) H15a H16 K16 (fun q hq => by
  right
  have h : q.1 = N15+884 := congrArg Prod.fst (List.mem_singleton.mp hq)
  lia)
 have H16b : At U.W s16 ([((N+884), Cl U.P t1 S t2 WL t3 (.str txt xt) t4 (.int ln tl) sl), ((N+884+1), A7 (some (.ref EL))), ((N+884+2), A7 (some (.ref TL)))] ++ ((N15+884, A9 [.ref TL, .ref SL] 0) :: (SL, A9 xs2 nS) :: (TL, A9 xt2 nT) :: (WL, A9 xw nw) :: (S, A9 vs n) :: (847, o7) :: (105, B9) :: (EL, A9 (Ab T) nE) :: T)) := H16a.up2.up1.up4.up4.up4
 obtain ⟨N16, tk16, hN16, hT16⟩ := H16b.NT
 refine Bf (Br (C5 (W := [0, 1, 2, 3].zip [_, _, _, _]) (Ad9 U N16 tk16 (N+884) (N+884+1) (N+884+2) t1 S t2 WL EL t3 xt t4 tl TL txt ln sl) hA (dl hD) H16b.left rfl rfl rfl hN16 hT16 rfl rfl (by decide) (by decide) trivial ?_))
 intro s17 H17 K17 _ _
 have H17a : At U.W s17 (((N+884), Cl U.P t1 S t2 WL t3 (.str txt xt) t4 (.int ln tl) sl) :: ((N+884+1), A7 (some (.ref EL))) :: ((N+884+2), A7 (some (.ref TL))) :: (N16+884, A9 [.ref WL, .ref WL] 0) :: (N15+884, A9 [.ref TL, .ref SL] 0) :: (SL, A9 xs2 nS) :: (TL, A9 xt2 nT) :: (WL, A9 xw nw) :: (S, A9 vs n) :: (847, o7) :: (105, B9) :: (EL, A9 (Ab T) nE) :: T) := At.next H16b H17 K17 (fun q hq => by
  have h : q.1 ∈ [(N+884), (N+884+1), (N+884+2), N16+884] := List.mem_map_of_mem (f := (·.1)) hq
  simp only [List.mem_cons, List.not_mem_nil, or_false] at h
  rcases h with h | h | h | h
  ·left; rw [h]; simp
  ·left; rw [h]; simp
  ·left; rw [h]; simp
  ·right; lia)
 have nd17 := H17a.nd
 rw [hdv] at hTL hSL
 have hneTW : TL ≠ WL := by
  intro q
  subst q
  simp at nd17
 have hneSW : SL ≠ WL := by
  intro q
  subst q
  simp at nd17
 have g17 := H17a.own
 have q17 : KN [884, 847, 105] 885 s s17 := by
  refine q13.trans ((K14.kn ex3).trans ((K15.kn ?_).trans ((K16.kn ?_).trans (K17.kn ex3))))
  ·intro y hy; exact ex3 y (by simp at hy; simp [hy])
  ·intro y hy; cases hy
 refine Q7 (by lia) (g17 _ (.tail _ (.tail _ (.tail _ (.tail _ (.head _)))))) (g17 _ (.tail _ (.tail _ (.tail _ (.head _))))) (g17 _ (.tail _ (.tail _ (.tail _ (.tail _ (.tail _ (.tail _ (.head _)))))))) (g17 _ (.tail _ (.tail _ (.tail _ (.tail _ (.tail _ (.head _))))))) (g17 _ (.tail _ (.tail _ (.tail _ (.tail _ (.tail _ (.tail _ (.tail _ (.head _))))))))) hTL hSL hW hneTW hneSW ⟨_, rfl, rfl, ?_⟩
 clear K14 K15 K16 K17 H13b H14 H14a H15 H15a H16 H16a H16b H17 q13 nd17 g17
 have H17b : At U.W s17 (((N+884), Cl U.P t1 S t2 WL t3 (.str txt xt) t4 (.int ln tl) sl) :: ((N+884+1), A7 (some (.ref EL))) :: ((N+884+2), A7 (some (.ref TL))) :: (TL, A9 xt2 nT) :: (S, A9 vs n) :: (847, o7) :: (105, B9) :: (EL, A9 (Ab T) nE) :: T) := (H17a.up6.up3.up3.up3.up7.up7.up7.up7).tl.tl.tl.tl
 obtain ⟨N17, tk17, hN17, hT17⟩ := H17b.NT
 refine B8 (Bs (Au (olds := [(N+884), (N+884+1), (N+884+2)]) (Adg U N17 tk17 (N+884) (N+884+1) (N+884+2) t1 S t2 WL EL t3 xt t4 tl TL txt ln sl (txt.cps.toList.count 10 : Nat)) hA (dl hD) H17b rfl rfl rfl rfl hN17 hT17 ⟨Sc (by
  have h := Jc (Ej 0 (Aq es)) 1 hdok
  rw [hln, h, <- htxt]
  simp), Sp, trivial⟩ ?_))
 intro s18 H18 K18 _ _
 refine ⟨rfl, ?_⟩
 refine Aw ?_
 refine B4 ?_
 rw [Ad5]
 refine Qj ?_
 have e2 : PySem.eval (Ta U.P) (C9 U.P (N+884) (N+884+1) (N+884+2)) = PySem.eval (.Compare (Dp U.P) [.Eq] [Dg U.P] (Lo (Ta U.P))) (C9 U.P (N+884) (N+884+1) (N+884+2)) := congrArg (fun x => PySem.eval x (C9 U.P (N+884) (N+884+1) (N+884+2))) (Am3 U)
 rw [e2]
 refine Oj (Aj2 U) ?_
 have H18a : At U.W s18 ([((N+884), Cl U.P t1 S t2 WL t3 (.str txt xt) t4 (.int ln tl) sl), ((N+884+1), A7 (some (.ref EL))), ((N+884+2), A7 (some (.ref TL)))] ++ ((TL, A9 xt2 nT) :: (S, A9 vs n) :: (847, o7) :: (105, B9) :: (EL, A9 (Ab T) nE) :: T)) := H18
 obtain ⟨N18, tk18, hN18, hT18⟩ := H18a.NT
 refine Bf (Br (F9 (W := [0, 1, 2, 5, 6, 7, 4].zip [_, _, _, _, _, _, _]) (Abz U N18 tk18 (N+884) (N+884+1) (N+884+2) t1 S t2 WL EL t3 xt t4 tl TL txt ln sl) hA (dl hD) H18a.left rfl rfl rfl hN18 hT18 rfl rfl (by decide) (by decide) trivial ?_))
 intro s19 H19 K19 _ _
 obtain ⟨hv, hhv⟩ : ∃ hv, hv = [Value.str ⟨#[97, 46, 111, 114, 103]⟩ (tk18+1573), .str ⟨#[98, 46, 111, 114, 103]⟩ (tk18+1574), .str ⟨#[119, 119, 119, 46, 97, 46, 111, 114, 103]⟩ (tk18+1575), .str ⟨#[120]⟩ (tk18+1576), .str ⟨#[97, 120]⟩ (tk18+1577)] := ⟨_, rfl⟩
 have hhvS : StrsAre hv ([0, 1, 2, 3, 4].map fun h => S8 (Ap h)) := by
  rw [hhv]
  exact .cons _ _ (.cons _ _ (.cons _ _ (.cons _ _ (.cons _ _ .nil))))
 have hhl : hv.length = 5 := by rw [hhv]; rfl
 have H19a : At U.W s19 (((N+884), Cl U.P t1 S t2 WL t3 (.str txt xt) t4 (.int ln tl) sl) :: ((N+884+1), A7 (some (.ref EL))) :: ((N+884+2), A7 (some (.ref TL))) :: (N18+884+2, Bh (N18+884+1) 0 none #[]) :: (N18+884+3, A9 [] 0) :: (N18+884+4, eD) :: (N18+884+1, A9 hv 0) :: (TL, A9 xt2 nT) :: (S, A9 vs n) :: (847, o7) :: (105, B9) :: (EL, A9 (Ab T) nE) :: T) := by
  rw [hhv]
  exact At.next H18a H19 K19 (fun q hq => by
   have h : q.1 ∈ [(N+884), (N+884+1), (N+884+2), N18+884+2, N18+884+3, N18+884+4, N18+884+1] := List.mem_map_of_mem (f := (·.1)) hq
   simp only [List.mem_cons, List.not_mem_nil, or_false] at h
   rcases h with h | h | h | h | h | h | h
   ·left; rw [h]; simp
   ·left; rw [h]; simp
   ·left; rw [h]; simp
   ·right; lia
   ·right; lia
   ·right; lia
   ·right; lia)
 have q19 : KN [884, 847, 105] 885 s s19 := q17.trans ((K18.kn ex3).trans (K19.kn ex3))
 clear K18 K19 H17a H17b H18 H18a H19 q17
 have H19b : At U.W s19 ((N18+884+2, Bh (N18+884+1) 0 none #[]) :: (N18+884+1, A9 hv 0) :: (N18+884+4, eD) :: ((N+884+2), A7 (some (.ref TL))) :: (N18+884+3, A9 [] 0) :: (TL, A9 xt2 nT) :: (105, B9) :: ((N+884), Cl U.P t1 S t2 WL t3 (.str txt xt) t4 (.int ln tl) sl) :: ((N+884+1), A7 (some (.ref EL))) :: (S, A9 vs n) :: (847, o7) :: (EL, A9 (Ab T) nE) :: T) := H19a.up9.up9.up3.up3.up10.up10.up8.up7.up9.up10.up10
 intro A19 hA19 hD19 hU19 _
 refine Oy (H19b.own _ (.head _)) ?_
 refine Ab2 hTL hk8 h2 h5 (by lia) hA19 (Dv hD19 hD) (by lia) [0, 1, 2, 3, 4] hv 0 none #[] eD B9 [] 0 _ s19 rfl (Nat.zero_le _) hhvS (by decide) (.inl ⟨rfl, by decide⟩) (.inl rfl) (Nat.le_refl _) H19b ?_
 intro s20 o20 vs1 Ts1 n1 tb1 td1 old1 hans1 htb1 H20 K20
 have q20 : KN [884, 847, 105] 885 s s20 := q19.trans (K20.kn (by intro y hy; exact Kq H19b (by simp only [List.mem_cons, List.not_mem_nil, or_false] at hy; rcases hy with h | h | h | h | h | h <;> simp [h])))
 have H20a : At U.W s20 ((N18+884+4, Lu U.P td1 old1) :: (N18+884+2, o20) :: (N18+884+1, A9 hv 0) :: ((N+884+2), A7 (some (.ref TL))) :: (N18+884+3, A9 vs1 n1) :: (TL, A9 xt2 nT) :: (105, tb1) :: ((N+884), Cl U.P t1 S t2 WL t3 (.str txt xt) t4 (.int ln tl) sl) :: ((N+884+1), A7 (some (.ref EL))) :: (S, A9 vs n) :: (847, o7) :: (EL, A9 (Ab T) nE) :: (T ++ Ts1)) := by
  have z : At U.W s20 ([(N18+884+4, Lu U.P td1 old1), (N18+884+2, o20), (N18+884+1, A9 hv 0), ((N+884+2), A7 (some (.ref TL))), (N18+884+3, A9 vs1 n1), (TL, A9 xt2 nT), (105, tb1)] ++ (Ts1 ++ (((N+884), Cl U.P t1 S t2 WL t3 (.str txt xt) t4 (.int ln tl) sl) :: ((N+884+1), A7 (some (.ref EL))) :: (S, A9 vs n) :: (847, o7) :: (EL, A9 (Ab T) nE) :: T))) := H20.up2
  exact z.perm (List.Perm.append_left [(N18+884+4, Lu U.P td1 old1), (N18+884+2, o20), (N18+884+1, A9 hv 0), ((N+884+2), A7 (some (.ref TL))), (N18+884+3, A9 vs1 n1), (TL, A9 xt2 nT), (105, tb1)] (List.perm_append_comm (l₁ := ((N+884), Cl U.P t1 S t2 WL t3 (.str txt xt) t4 (.int ln tl) sl) :: ((N+884+1), A7 (some (.ref EL))) :: (S, A9 vs n) :: (847, o7) :: (EL, A9 (Ab T) nE) :: T) (l₂ := Ts1)))
 obtain ⟨N20, tk20, hN20, hT20⟩ := H20a.NT
 refine Au (olds := [N18+884+4]) (Adc U N18 tk18 (N+884) (N+884+1) (N+884+2) t1 S t2 WL EL t3 xt t4 tl TL txt ln sl N20 tk20 td1 old1) hA (dl hD) H20a rfl rfl rfl rfl hN20 hT20 trivial ?_
 intro s21 H21 K21 _ _
 have q21 : KN [884, 847, 105] 885 s s21 := q20.trans (K21.kn (by intro y hy; exact Kq H20a (by simp only [List.mem_cons, List.not_mem_nil, or_false] at hy; simp [hy])))
 have H21a := (At.tl (At.tl (At.tl H21)))
 have H21b : At U.W s21 ([((N+884), Cl U.P t1 S t2 WL t3 (.str txt xt) t4 (.int ln tl) sl), ((N+884+1), A7 (some (.ref EL))), ((N+884+2), A7 (some (.ref TL)))] ++ ((N18+884+3, A9 vs1 n1) :: (TL, A9 xt2 nT) :: (105, tb1) :: (S, A9 vs n) :: (847, o7) :: (EL, A9 (Ab T) nE) :: (T ++ Ts1))) := H21a.up6.up4.up4.up4.up4.up6.up6
 clear K20 K21 H19a H19b H20 H20a H21 H21a q19 q20
 obtain ⟨N21, tk21, hN21, hT21⟩ := H21b.NT
 have g21 := H21b.own
 refine Bf (Br (F9 (W := [0, 1, 2, 4, 5, 6].zip [_, _, _, _, _, _]) (Ae0 U N21 tk21 (N+884) (N+884+1) (N+884+2) t1 S t2 WL EL t3 xt t4 tl TL txt ln sl) hA (dl hD) H21b.left rfl rfl rfl hN21 hT21 rfl rfl (by decide) (by decide) trivial ?_))
 intro s22 H22 K22 _ _
 have H22a : At U.W s22 (((N+884), Cl U.P t1 S t2 WL t3 (.str txt xt) t4 (.int ln tl) sl) :: ((N+884+1), A7 (some (.ref EL))) :: ((N+884+2), A7 (some (.ref TL))) :: (N21+884+1, Bz 0 5) :: (N21+884+2, A9 [] 0) :: (N21+884+3, eD) :: (N18+884+3, A9 vs1 n1) :: (TL, A9 xt2 nT) :: (105, tb1) :: (S, A9 vs n) :: (847, o7) :: (EL, A9 (Ab T) nE) :: (T ++ Ts1)) := At.next H21b H22 K22 (fun q hq => by
   have h : q.1 ∈ [(N+884), (N+884+1), (N+884+2), N21+884+1, N21+884+2, N21+884+3] := List.mem_map_of_mem (f := (·.1)) hq
   simp only [List.mem_cons, List.not_mem_nil, or_false] at h
   rcases h with h | h | h | h | h | h
   ·left; rw [h]; simp
   ·left; rw [h]; simp
   ·left; rw [h]; simp
   ·right; lia
   ·right; lia
   ·right; lia)
 have H22b : At U.W s22 ((N21+884+1, Bz 0 5) :: (N21+884+3, eD) :: ((N+884+1), A7 (some (.ref EL))) :: (N21+884+2, A9 [] 0) :: (EL, A9 (Ab T) nE) :: (T ++ (Ts1 ++ [((N+884), Cl U.P t1 S t2 WL t3 (.str txt xt) t4 (.int ln tl) sl), ((N+884+2), A7 (some (.ref TL))), (N18+884+3, A9 vs1 n1), (TL, A9 xt2 nT), (105, tb1), (S, A9 vs n), (847, o7)]))) := by
  have z : At U.W s22 ([(N21+884+1, Bz 0 5), (N21+884+3, eD), ((N+884+1), A7 (some (.ref EL))), (N21+884+2, A9 [] 0)] ++ ([((N+884), Cl U.P t1 S t2 WL t3 (.str txt xt) t4 (.int ln tl) sl), ((N+884+2), A7 (some (.ref TL))), (N18+884+3, A9 vs1 n1), (TL, A9 xt2 nT), (105, tb1), (S, A9 vs n), (847, o7)] ++ (((EL, A9 (Ab T) nE) :: T) ++ Ts1))) := H22a.up9.up9.up9.up9.up6.up5.up8.up7.up9.up9
  have z2 := z.perm (List.Perm.append_left [(N21+884+1, Bz 0 5), (N21+884+3, eD), ((N+884+1), A7 (some (.ref EL))), (N21+884+2, A9 [] 0)] (P0 [((N+884), Cl U.P t1 S t2 WL t3 (.str txt xt) t4 (.int ln tl) sl), ((N+884+2), A7 (some (.ref TL))), (N18+884+3, A9 vs1 n1), (TL, A9 xt2 nT), (105, tb1), (S, A9 vs n), (847, o7)] ((EL, A9 (Ab T) nE) :: T) Ts1))
  exact z2
 have q22 : KN [884, 847, 105] 885 s s22 := q21.trans (K22.kn ex3)
 intro A22 hA22 hD22 _ _
 refine P9 (H22b.own _ (.head _)) ?_
 refine Ab0 hE hk8 h2 h5 hA22 (Dv hD22 hD) [0, 1, 2, 3, 4] 0 eD [] 0 _ s22 rfl (by decide) (.inl ⟨rfl, by decide⟩) (Nat.le_refl _) H22b ?_
 intro s23 o23 vs2 Ts2 n2 td2 old2 hans2 H23 K23
 have q23 : KN [884, 847, 105] 885 s s23 := q22.trans (K23.kn (by
  intro y hy
  exact Kq H22b (by
   rcases List.mem_append.mp hy with h | h
   ·simp only [List.mem_cons, List.not_mem_nil, or_false] at h
    rcases h with h | h | h | h | h <;> simp [h]
   ·exact .tail _ (.tail _ (.tail _ (.tail _ (.tail _ (by rw [List.map_append]; exact List.mem_append_left _ h))))))))
 have H23a := At.up1 H23
 obtain ⟨N23, tk23, hN23, hT23⟩ := H23a.NT
 refine Au (olds := [N21+884+3]) (Adf U N21 tk21 (N+884) (N+884+1) (N+884+2) t1 S t2 WL EL t3 xt t4 tl TL txt ln sl N23 tk23 td2 old2) hA (dl hD) H23a rfl rfl rfl rfl hN23 hT23 trivial ?_
 intro s24 H24 K24 _ _
 have q24 : KN [884, 847, 105] 885 s s24 := q23.trans (K24.kn (by intro y hy; exact Kq H23a (by simp only [List.mem_cons, List.not_mem_nil, or_false] at hy; simp [hy])))
 obtain ⟨oD, H24a⟩ : ∃ oD, At U.W s24 (((N21+884+3, oD) :: (N21+884+1, o23) :: ((N+884+1), A7 (some (.ref EL))) :: (N21+884+2, A9 vs2 n2) :: (EL, A9 (Ab T) nE) :: T) ++ (Ts2 ++ (Ts1 ++ [((N+884), Cl U.P t1 S t2 WL t3 (.str txt xt) t4 (.int ln tl) sl), ((N+884+2), A7 (some (.ref TL))), (N18+884+3, A9 vs1 n1), (TL, A9 xt2 nT), (105, tb1), (S, A9 vs n), (847, o7)]))) := ⟨_, H24⟩
 have dis := H24a.dis
 have own24 := H24a.own
 have tl3 : ∀ q, q ∈ [((N+884), Cl U.P t1 S t2 WL t3 (.str txt xt) t4 (.int ln tl) sl), ((N+884+2), A7 (some (.ref TL))), (N18+884+3, A9 vs1 n1), (TL, A9 xt2 nT), (105, tb1), (S, A9 vs n), (847, o7)] -> q ∈ (((N21+884+3, oD) :: (N21+884+1, o23) :: ((N+884+1), A7 (some (.ref EL))) :: (N21+884+2, A9 vs2 n2) :: (EL, A9 (Ab T) nE) :: T) ++ (Ts2 ++ (Ts1 ++ [((N+884), Cl U.P t1 S t2 WL t3 (.str txt xt) t4 (.int ln tl) sl), ((N+884+2), A7 (some (.ref TL))), (N18+884+3, A9 vs1 n1), (TL, A9 xt2 nT), (105, tb1), (S, A9 vs n), (847, o7)]))) := fun q h => List.mem_append_right _ (List.mem_append_right _ (List.mem_append_right _ h))
 refine Uo hans1 hans2 (by lia) (own24 _ (tl3 _ (.tail _ (.tail _ (.head _))))) (own24 _ (.tail _ (.tail _ (.tail _ (.head _))))) (fun q hq => own24 _ (List.mem_append_right _ (List.mem_append_right _ (List.mem_append_left _ hq)))) (fun q hq => own24 _ (List.mem_append_right _ (List.mem_append_left _ hq))) (fun q hq q' hq' => (dis q' hq' q hq).symm) ?_
 refine cont s24 o7 tb1 hT7 htb1 (H24a.sub ?_ ?_) (q24.keeps (by lia))
 ·intro q hq
  apply tl3
  simp only [List.mem_cons, List.not_mem_nil, or_false] at hq ⊢
  rcases hq with h | h | h <;> simp [h]
 ·show [S, 847, 105].Nodup
  rw [hS]
  decide
end
end Mine
end
section
open PySem.Calls
namespace Mine
noncomputable def ovr : List (Nat × Obj) -> (Nat -> Obj) -> Nat -> Obj
 | [], x, i => x i
 | p :: K, x, i => match Nat.beq p.1 i with
  | true => p.2
  | false => ovr K x i
noncomputable def mkT (g : Nat -> Obj) (n : Nat) : Nat -> Nat -> Nat -> BT
 | 0, _, _ => .nil
 | f + 1, a, b => match Nat.blt b n with
  | true => .node (g b) (mkT g n f (2 * a) (a + b)) (mkT g n f (2 * a) (2 * a + b))
  | false => .nil
theorem Nd (g : Nat -> Obj) (n : Nat) : ∀ (f a b i : Nat), i < f -> a * i + b < n -> (mkT g n f a b).get i = some (g (a * i + b))
 | 0, _, _, _, h, _ => (Nat.not_lt_zero _ h).elim
 | f + 1, a, b, i, h, hn => by
  have hb : Nat.blt b n = true := Nat.ble_eq_true_of_le (Nat.lt_of_le_of_lt (Nat.le_add_left _ _) hn)
  unfold mkT
  rw [hb]
  show (BT.node _ _ _).get i = _
  rw [BT.get_node]
  by_cases h0 : i = 0
  ·subst h0; simp
  ·rw [if_neg h0]
   by_cases p : i % 2 = 1
   ·have e : 2 * a * (i / 2) + (a + b) = a * i + b := by
     have hj : i = 2 * (i / 2) + 1 := by lia
     generalize i / 2 = q at hj
     subst hj
     rw [Nat.mul_add, Nat.mul_one, <- Nat.mul_assoc, Nat.mul_comm a 2, Nat.add_assoc]
    rw [if_pos p, Nd g n f (2 * a) (a + b) (i / 2) (by lia) (by lia), e]
   ·have e : 2 * a * (i / 2 - 1) + (2 * a + b) = a * i + b := by
     have hj : i = 2 * (i / 2 - 1) + 2 := by lia
     generalize i / 2 - 1 = q at hj
     subst hj
     rw [Nat.mul_add, <- Nat.mul_assoc, Nat.mul_comm a 2, Nat.add_assoc]
    rw [if_neg p, Nd g n f (2 * a) (2 * a + b) (i / 2 - 1) (by lia) (by lia), e]
noncomputable def Gu (K : List (Nat × Obj)) (x : Nat -> Obj) (n k : Nat) (os : OsState) : SharedT := ⟨mkT (ovr K x) n 1000 1 0, n, {}, #[], {}, k, os⟩
noncomputable def vw (ks : List Nat) (s : SharedT) : List (Option Obj) × Nat × Life × Nat × Drawn × Nat := (ks.map s.tree.get, s.n, s.life, s.gens.size, s.drawn, s.toks)
noncomputable def Lg (K : List (Nat × Obj)) (n k : Nat) : List (Option Obj) × Nat × Life × Nat × Drawn × Nat := (K.map (fun p => some p.2), n, {}, 0, {}, k)
theorem O5 {x : Nat -> Obj} (i : Nat) : ∀ {K : List (Nat × Obj)} {T : Nat -> Option Obj}, (K.map Prod.fst).map T = K.map (fun p => some p.2) -> (∀ i, x i = (T i).getD default) -> ovr K x i = x i
 | [], _, _, _ => rfl
 | p :: K, T, h, hx => by
  rw [List.map_cons, List.map_cons, List.map_cons] at h
  injection h with h1 h2
  unfold ovr
  rw [BT.beq_eq]
  by_cases e : p.1 = i
  ·rw [decide_eq_true e, <- e, hx, h1]; rfl
  ·rw [decide_eq_false e]; exact O5 i h2 hx
theorem Pk {s : SharedT} {K : List (Nat × Obj)} {n k : Nat} (hn : Nat.ble n 1000 = true) (h : vw (K.map Prod.fst) s = Lg K n k) : ∃ x os, s.abs = (Gu K x n k os).abs := by
 obtain ⟨T, n', L, g, d, t, os⟩ := s
 simp only [vw, Lg, Prod.mk.injEq] at h
 obtain ⟨h1, rfl, rfl, h4, rfl, rfl⟩ := h
 obtain rfl : g = #[] := Array.eq_empty_of_size_eq_zero h4
 refine ⟨fun i => (T.get i).getD default, os, ?_⟩
 have e : T.list n' = (mkT (ovr K fun i => (T.get i).getD default) n' 1000 1 0).list n' := by
  unfold BT.list
  refine List.map_congr_left fun i hi => ?_
  have hi' : i < n' := List.mem_range.mp hi
  have := Nat.le_of_ble_eq_true hn
  rw [Nd _ _ _ _ _ _ (by lia) (by lia), O5 _ h1 (fun _ => rfl)]
  simp
 simp only [SharedT.abs, Gu, absHeap, e]
noncomputable def Nb (tb : String -> Option Builtin) (p : Program) (w : World) (n₀ : Nat) (ann : Option Value) : Nat -> SharedT -> Thread -> Option (SharedT × Thread)
 | 0, s, t => some (s, t)
 | n + 1, s, t => match through t with
  | true => none
  | false => match stepOk n₀ ann t with
   | false => none
   | true => match stepT (denote tb) p w s t with
    | some (s', t') => Nb tb p w n₀ ann n s' t'
    | none => none
theorem P7 {tb : String -> Option Builtin} {p : Program} {w : World} {n₀ : Nat} {ann : Option Value} : ∀ {n : Nat} {s s' : SharedT} {t t' : Thread}, Nb tb p w n₀ ann n s t = some (s', t') -> topGo tb p w n₀ ann n s.abs t = some (s'.abs, t')
 | 0, _, _, _, _, h => by cases h; rfl
 | n + 1, s, s', t, t', h => by
  unfold Nb at h
  unfold topGo
  cases he : through t with
  | true => rw [he] at h; cases h
  | false =>
   rw [he] at h
   cases hk : stepOk n₀ ann t with
   | false => rw [hk] at h; cases h
   | true =>
    rw [hk] at h
    cases hs : stepT (denote tb) p w s t with
    | none => rw [hs] at h; cases h
    | some r => obtain ⟨s₂, t₂⟩ := r; rw [hs] at h; dsimp only; rw [stepT_spec hs]; exact P7 h
noncomputable def openF (p : Program) (N : Nat) (ks : List Nat) (w : World) := (match toT (start (opening p)).1 with
 | none => none
 | some z => match Zj treeTable (opening p) w N z (start (opening p)).2 with
  | none => none
  | some a => (fenceModules? p a.abs).bind toT).map (vw ks)
theorem Yz {p : Program} {N : Nat} {w : World} {K : List (Nat × Obj)} {n k : Nat} (hn : Nat.ble n 1000 = true) (h : openF p N (K.map Prod.fst) w = some (Lg K n k)) : ∃ x os, fencedOpening treeTable p w N = some (Gu K x n k os).abs := by
 unfold openF at h
 obtain ⟨s, hs, hv⟩ := Option.map_eq_some_iff.mp h
 obtain ⟨x, os, e⟩ := Pk hn hv
 split at hs
 ·cases hs
 rename_i z hz
 split at hs
 ·cases hs
 rename_i a ha
 obtain ⟨s', hf, ht⟩ := Option.bind_eq_some_iff.mp hs
 have e1 := R6 ha
 rw [Tw hz] at e1
 refine ⟨x, os, ?_⟩
 unfold fencedOpening
 rw [e1]
 simp only [Option.bind_some, hf, <- Tw ht, e]
noncomputable def preF (p : Program) (m : Nat) (ann : Option Value) (N : Nat) (K : List (Nat × Obj)) (x : Nat -> Obj) (n k : Nat) (os : OsState) (ks : List Nat) (w : World) := (Nb treeTable p w m ann N (Gu K x n k os) (topStub p)).map fun r => (vw ks r.1, r.2)
noncomputable def thrF (c : Code) (pos q : Pos) : Thread := ⟨denote treeTable c, c, pos, [topFrame q]⟩
theorem Aca {p : Program} {m : Nat} {ann : Option Value} {N : Nat} {K : List (Nat × Obj)} {x : Nat -> Obj} {n k : Nat} {os : OsState} {w : World} {K' : List (Nat × Obj)} {n' k' : Nat} {t : Thread} (hn : Nat.ble n' 1000 = true)
  (h : preF p m ann N K x n k os (K'.map Prod.fst) w = some (Lg K' n' k', t)) : ∃ x' os', topGo treeTable p w m ann N (Gu K x n k os).abs (topStub p) = some ((Gu K' x' n' k' os').abs, t) := by
 unfold preF at h
 obtain ⟨⟨s, t'⟩, hs, hv⟩ := Option.map_eq_some_iff.mp h
 simp only [Prod.mk.injEq] at hv
 obtain ⟨hv, rfl⟩ := hv
 obtain ⟨x', os', e⟩ := Pk hn hv
 exact ⟨x', os', by rw [P7 hs, e]⟩
noncomputable def segF (p : Program) (m : Nat) (ann : Option Value) (N : Nat) (K : List (Nat × Obj)) (x : Nat -> Obj) (n k : Nat) (os : OsState) (ks : List Nat) (w : World) (l : List Stmt) (env : Env) (c : Code) (pos q : Pos) :=
 (segRunT treeTable p w m ann 1 N (Gu K x n k os) (piecesOf l env c pos [topFrame q])).map fun r => (r.1, vw ks r.2.1, r.2.2)
noncomputable def blkF (p : Program) (m : Nat) (ann : Option Value) (N : Nat) (K : List (Nat × Obj)) (x : Nat -> Obj) (n k : Nat) (os : OsState) (ks : List Nat) (w : World) (l : List Stmt) (env : Env) (c : Code) (pos q : Pos) :=
 (segRunT treeTable p w m ann 1 N (Gu K x n k os) (blockOf l env c pos [topFrame q])).map fun r => (r.1, vw ks r.2.1, r.2.2)
theorem Vv {p : Program} {m : Nat} {ann : Option Value} {N : Nat} {s : SharedT} {w : World} {t : Thread} {c' : Code} {pos' : Pos} {K' : List (Nat × Obj)} {n' k' : Nat} (hn : Nat.ble n' 1000 = true)
  (h : (segRunT treeTable p w m ann 1 N s t).map (fun r => (r.1, vw (K'.map Prod.fst) r.2.1, r.2.2)) = some (.next, Lg K' n' k', c', pos')) : ∃ x' os', segRun treeTable p w m ann 1 N s.abs t = some (.next, (Gu K' x' n' k' os').abs, c', pos') := by
 obtain ⟨⟨f, s', c, q⟩, hs, hv⟩ := Option.map_eq_some_iff.mp h
 simp only [Prod.mk.injEq] at hv
 obtain ⟨rfl, hv, rfl, rfl⟩ := hv
 obtain ⟨x', os', e⟩ := Pk hn hv
 exact ⟨x', os', by rw [segRun_of hs, e]⟩
theorem Ff {p : Program} {m : Nat} {ann : Option Value} {N M : Nat} {s s' r : Shared} {w : World} {b : List Stmt} {env : Env} {c : Code} {pos pos' q : Pos} (i j : Nat)
  (h : segRun treeTable p w m ann 1 N s (piecesOf ((b.drop i).take j) env c pos [topFrame q]) = some (.next, s', c, pos'))
  (k : topRun treeTable p w m ann M s' (restOf (b.drop (i + j)) env c pos' [topFrame q]) = some r) : topRun treeTable p w m ann (N + M) s (restOf (b.drop i) env c pos [topFrame q]) = some r := by
 have e : b.drop i = (b.drop i).take j ++ b.drop (i + j) := by rw [<- List.drop_drop, List.take_append_drop]
 rw [e]
 exact piece_app h k
noncomputable def Aeb {α : Type} (p : Program) (look : Program -> Shared -> α) (mods : List Str) (K₀ : List (Nat × Obj)) (x₀ : Nat -> Obj) (n₀ k₀ : Nat) (os₀ : OsState) (K : List (Nat × Obj)) (x : Nat -> Obj) (n k : Nat) (os : OsState) : Bool × α :=
 (staticsOk mods (Gu K₀ x₀ n₀ k₀ os₀).abs.heap (Gu K x n k os).abs.heap && namesBound p (Gu K x n k os).abs.heap && laidKept (Gu K₀ x₀ n₀ k₀ os₀).abs.heap (Gu K x n k os).abs.heap, look p (Gu K x n k os).abs)
noncomputable def begF (K₀ : List (Nat × Obj)) (x₀ : Nat -> Obj) (n₀ k₀ : Nat) (os₀ : OsState) : Bool × Option Value := ((Gu K₀ x₀ n₀ k₀ os₀).abs.heap.isNs mainGlobals, (Gu K₀ x₀ n₀ k₀ os₀).abs.heap.nsMap mainGlobals "__annotations__")
theorem Xg {p : Program} {w : World} {N M : Nat} {K₀ : List (Nat × Obj)} {x₀ : Nat -> Obj} {n₀ k₀ : Nat} {os₀ : OsState} {K : List (Nat × Obj)} {x : Nat -> Obj} {n k : Nat} {os : OsState} {ann : Option Value} {α : Type} {look : Program -> Shared -> α} {v : α}
  (ho : fencedOpening treeTable p w N = some (Gu K₀ x₀ n₀ k₀ os₀).abs) (hb : begF K₀ x₀ n₀ k₀ os₀ = (true, ann)) (hr : topRun treeTable p w n₀ ann M (Gu K₀ x₀ n₀ k₀ os₀).abs (topStub p) = some (Gu K x n k os).abs) (hM : Nat.ble M N = true)
  (he : Aeb p look (importedModules p.main.body) K₀ x₀ n₀ k₀ os₀ K x n k os = (true, v)) : (openEnds treeTable p w N).map (fun s => look p s) = some v := by
 simp only [begF, Prod.mk.injEq] at hb
 simp only [Aeb, Prod.mk.injEq] at he
 obtain ⟨b1, b2⟩ := hb
 obtain ⟨e1, e2⟩ := he
 have r := topRun_mono (N - M) _ _ _ _ hr
 rw [show M + (N - M) = N by have := Nat.le_of_ble_eq_true hM; lia] at r
 have hsz : (Gu K₀ x₀ n₀ k₀ os₀).abs.heap.objs.size = n₀ := absHeap_size _ _ _
 unfold openEnds
 rw [ho]
 simp only [Option.bind_some]
 unfold topFrom
 rw [b1, b2, hsz]
 have hg : ((Gu K₀ x₀ n₀ k₀ os₀).abs.gens.size == 0) = true := rfl
 rw [hg, r]
 have hd : gensDone (Gu K x n k os).abs = true := rfl
 have e3 : (staticsOk (importedModules p.main.body) (Gu K₀ x₀ n₀ k₀ os₀).abs.heap (Gu K x n k os).abs.heap && namesBound p (Gu K x n k os).abs.heap && gensDone (Gu K x n k os).abs && laidKept (Gu K₀ x₀ n₀ k₀ os₀).abs.heap (Gu K x n k os).abs.heap) = true := by
  rw [hd, Bool.and_true]; exact e1
 simp only [Bool.and_self, Option.bind_some, e3, Option.map_some, e2]
end Mine
end
namespace Mine
noncomputable def p35 (k : Nat) : Obj := ⟨.none, none, .fields (([zI 3 0, zI 0 0, zR 43, zI 7 0, zI 0 0, zR 50, zI 53 0, zI 0 0, zR 102, zI 60 0, zI 0 0, zR 109, zI 123 0, zI 0 0, zR 116, zI 128 0, zI 0 0, zR 123, zI 135 0, zI 0 0, zR 130, zI 137 0, zI 0 0, zR 143, zI 144 0, zI 0 0, zR 165, zI 146 0, zI 0 0, zR 177, zI 148 0, zI 0 0, zR 189, zI 318 0, zI 0 0, zR 419, zI 524 0, zI 0 0, zR 666, zI 545 0, zI 0 0, zR 673, zI 550 0, zI 0 0, zR 680, zI 555 0, zI 0 0, zR 687, zI 558 0, zI 0 0, zR 694, zI 578 0, zI 0 0, zR 701, zI 587 0, zI 0 0, zR 708, zI 839 0, zI 0 0, zR 804, zI 848 0, zI 0 0, zR 811, zI 850 0, zI 0 0, zR 818, zI 852 0, zI 0 0, zR 825, zI 855 0, zI 0 0, zR 832, zI 860 0, zI 0 0, zR 839, zI 867 0, zI 0 0, zR 844, zI 879 0, zI 0 0, zR 851, zI 894 0, zI 0 0, zR 858, zI 898 0, zI 0 0, zR 863, zI 907 0, zI 0 0, zR 870, zI 914 0, zI 0 0, zR 877, zI 919 0, zI 0 0, zR 882] : List Value).take k).toArray, #[]⟩
noncomputable def g3 (P : Params) (v : Value) (k n : Nat) : Obj := match (o3 P).data with
 | .dict es _ => (match es.toList with
  | e :: l => ⟨.type "dict", none, .dict (⟨e.hash, e.key, v⟩ :: l.take k).toArray n, #[]⟩
  | _ => default)
 | _ => default
noncomputable def d0 (P : Params) : Obj := ⟨.none, none, .fields #[], #[]⟩
noncomputable def d1 (P : Params) : Obj := ⟨.type "code", none, .fields #[zS ⟨#[60, 109, 111, 100, 117, 108, 101, 62]⟩ 319, zS ⟨#[60, 109, 111, 100, 117, 108, 101, 62]⟩ 320, zS y70 321, zI 1 0, zI 0 0, zI 0 0, zI 0 0, zI 0 0, zR 34, .bool false, zI 318 0, zR 35, .none, .none, .none, .none, zI 322 0, zI 1 0, zS y70 323], #[]⟩
noncomputable def d2 (P : Params) : Obj := ⟨.type "type", none, .cls ⟨Yv, [zR 154], [zR 181, zR 154, zT "object"], 180, Yv, true, [], [], false, none, false⟩, #[some (zR 172), none, some (zS Yv 695), some (zS Yv 703), some (.none), some (.bool true)]⟩
noncomputable def d3 (P : Params) : Obj := ⟨.type "dict", none, .dict #[zE P y34 684 (zS Sw 689),
  zE P y35 688 (zI 144 687),
  zE P y36 691 (zR 167),
  zE P y29 692 (.none)] 2, #[]⟩
noncomputable def d4 (P : Params) : Obj := ⟨.type "type", none, .cls ⟨y40, [zR 154], [zR 169, zR 154, zT "object"], 168, y40, true, [], [], false, none, false⟩, #[some (zR 160), none, some (zS y40 677), some (zS y40 685), some (.none), some (.bool true)]⟩
noncomputable def d5 (P : Params) : Obj := ⟨.none, none, .dict #[zE P y76 183 (.bool true),
  zE P y77 185 (zR 14),
  zE P y78 206 (zR 18),
  zE P y79 216 (zR 22),
  zE P y80 245 (zI 4 0),
  zE P y81 270 (.bool true),
  zE P y82 272 (zR 27),
  zE P y83 0 (zS ⟨#[12, 30]⟩ 0),
  zE P y84 273 (zS y85 0),
  zE P y86 280 (.bool true),
  zE P y87 294 (.bool true),
  zE P y88 309 (.bool true),
  zE P y89 311 (zS y90 0)] 13, #[]⟩
noncomputable def d6 (P : Params) : Obj := ⟨.type "dict", none, .dict #[zE P y65 247 (zS ⟨#[95, 115, 114, 101]⟩ 246),
  zE P y29 248 (.none),
  zE P y66 250 (zS ⟨#[]⟩ 249),
  zB P y67 251 "off-the-table:_sre.__loader__:shared#opaque",
  zB P y68 252 "off-the-table:_sre.__spec__:shared#opaque",
  zB P ⟨#[99, 111, 109, 112, 105, 108, 101]⟩ 253 "_sre.compile",
  zB P ⟨#[116, 101, 109, 112, 108, 97, 116, 101]⟩ 254 "off-the-table:_sre.template:shared#opaque",
  zB P ⟨#[103, 101, 116, 99, 111, 100, 101, 115, 105, 122, 101]⟩ 255 "off-the-table:_sre.getcodesize:shared#opaque",
  zB P ⟨#[97, 115, 99, 105, 105, 95, 105, 115, 99, 97, 115, 101, 100]⟩ 256 "off-the-table:_sre.ascii_iscased:shared#opaque",
  zB P ⟨#[117, 110, 105, 99, 111, 100, 101, 95, 105, 115, 99, 97, 115, 101, 100]⟩ 257 "off-the-table:_sre.unicode_iscased:shared#opaque",
  zB P ⟨#[97, 115, 99, 105, 105, 95, 116, 111, 108, 111, 119, 101, 114]⟩ 258 "off-the-table:_sre.ascii_tolower:shared#opaque",
  zB P ⟨#[117, 110, 105, 99, 111, 100, 101, 95, 116, 111, 108, 111, 119, 101, 114]⟩ 259 "off-the-table:_sre.unicode_tolower:shared#opaque",
  zE P ⟨#[77, 65, 71, 73, 67]⟩ 261 (zI 20230612 260),
  zE P ⟨#[67, 79, 68, 69, 83, 73, 90, 69]⟩ 263 (zI 4 262),
  zE P ⟨#[77, 65, 88, 82, 69, 80, 69, 65, 84]⟩ 265 (zI 4294967295 264),
  zE P ⟨#[77, 65, 88, 71, 82, 79, 85, 80, 83]⟩ 267 (zI 1073741823 266),
  zE P ⟨#[99, 111, 112, 121, 114, 105, 103, 104, 116]⟩ 269 (zS ⟨#[32, 83, 82, 69, 32, 50, 46, 50, 46, 50, 32, 67, 111, 112, 121, 114, 105, 103, 104, 116, 32, 40, 99, 41, 32, 49, 57, 57, 55, 45, 50, 48, 48, 50, 32, 98, 121, 32, 83, 101, 99, 114, 101, 116, 32, 76, 97, 98, 115, 32, 65, 66, 32]⟩ 268)] 17, #[]⟩
noncomputable def d7 (P : Params) : Obj := ⟨.type "module", (some 11), .plain, #[]⟩
noncomputable def K0 (P : Params) : Frag := [(0, o0 P), (1, o1 P), (2, d5 P), (3, g3 P (zS y69 164) 10 11), (4, o4 P), (11, d6 P), (12, d7 P)]
noncomputable def K1 (P : Params) : Frag := [(0, o0 P), (1, o1 P), (2, d5 P), (3, g3 P (zS y69 164) 10 11), (4, o4 P), (11, d6 P), (12, d7 P), (35, d0 P), (36, d1 P)]
noncomputable def K2 (P : Params) : Frag := [(0, o0 P), (1, o1 P), (2, d5 P), (3, g3 P (zS ⟨#[114, 101]⟩ 429) 13 14), (4, o4 P), (35, p35 6), (36, d1 P), (57, o57 P), (58, o58 P), (64, o64 P), (65, Vk P), (71, o71 P), (72, o72 P), (81, o81 P), (82, o82 P), (90, o90 P), (91, o91 P)]
noncomputable def K3 (P : Params) : Frag := [(0, o0 P), (1, o1 P), (2, d5 P), (3, g3 P (zS ⟨#[114, 101]⟩ 429) 14 15), (4, o4 P), (35, p35 6), (36, d1 P), (57, o57 P), (58, o58 P), (64, o64 P), (65, Vk P), (71, o71 P), (72, o72 P), (81, o81 P), (82, o82 P), (90, o90 P), (91, o91 P), (93, o93 P)]
noncomputable def K4 (P : Params) : Frag := [(0, o0 P), (1, o1 P), (2, o2 P), (3, g3 P (zS Sw 605) 22 23), (4, o4 P), (35, p35 30), (36, d1 P), (57, o57 P), (58, o58 P), (64, o64 P), (65, Vk P), (71, o71 P), (72, o72 P), (81, o81 P), (82, o82 P), (90, o90 P), (91, o91 P), (93, o93 P), (102, Uc P), (103, To P), (105, d0 P), (109, Vj P), (110, Va P), (123, Ul P), (124, Vg P), (150, Ug P), (151, V1 P), (153, Vp P), (154, W4 P), (155, Tg P), (168, d3 P), (169, d4 P), (180, V9 P), (181, d2 P)]
noncomputable def K5 (P : Params) : Frag := [(0, o0 P), (1, o1 P), (2, o2 P), (3, g3 P (zS Sw 605) 23 24), (4, o4 P), (35, p35 33), (36, d1 P), (57, o57 P), (58, o58 P), (64, o64 P), (65, Vk P), (71, o71 P), (72, o72 P), (81, o81 P), (82, o82 P), (90, o90 P), (91, o91 P), (93, o93 P), (102, Uc P), (103, To P), (105, d0 P), (109, Vj P), (110, Va P), (123, Ul P), (124, Vg P), (150, Ug P), (151, V1 P), (153, Vp P), (154, W4 P), (155, Tg P), (180, V9 P), (181, d2 P), (411, Ye P)]
noncomputable def K6 (P : Params) : Frag := [(0, o0 P), (1, o1 P), (2, o2 P), (3, g3 P (zS Sw 605) 24 25), (4, o4 P), (35, p35 36), (36, d1 P), (57, o57 P), (58, o58 P), (64, o64 P), (65, Vk P), (71, o71 P), (72, o72 P), (81, o81 P), (82, o82 P), (90, o90 P), (91, o91 P), (93, o93 P), (102, Uc P), (103, To P), (105, d0 P), (109, Vj P), (110, Va P), (123, Ul P), (124, Vg P), (150, Ug P), (151, V1 P), (153, Vp P), (154, W4 P), (155, Tg P), (180, V9 P), (181, Adl P), (411, Ye P), (421, Aem P), (427, Adt P), (428, Adq P), (434, Afe P), (435, Ac9 P), (441, Aez P), (442, Afg P), (597, Ae2 P), (603, Aej P), (604, Aev P), (657, Adb P), (658, Adz P)]
noncomputable def Agf : Obj := ⟨.none, none, .fields #[], #[]⟩
noncomputable def KA (P : Params) : Frag := (847, Agf) :: (105, Agf) :: KQ P
noncomputable def asA : List Nat := 847 :: 105 :: [0, 1, 2, 3, 4, 57, 58, 64, 65, 71, 72, 81, 82, 90, 91, 93, 102, 103, 109, 110, 123, 124, 150, 151, 153, 154, 155, 180, 181, 411, 421, 427, 428, 434, 435, 441, 442, 597, 603, 604, 657, 658, 710, 716, 717, 723, 724, 725, 753, 754, 760, 761, 782, 783, 789, 790, 792, 793, 798, 804, 805, 811, 812, 818, 819, 825, 826, 832, 833, 839, 840, 844, 845, 851, 852, 858, 859, 863, 864, 870, 871, 877, 878, 880, 882, 883]
end Mine
section
open PySem.Calls
namespace Mine
noncomputable def Ho : List Str := (["_sre", "deque", "_wall", "_netrclex", "_twin_re_1", "_special_chars_map", "escape", "_translate", "_whence", "_index", "UnsupportedOperation", "IOBase", "BufferedIOBase", "TextIOBase", "BytesIO", "StringIO", "_kind", "_fspath", "_check_arg_types", "isabs", "join", "dirname", "shlex", "split", "_law_patterns", "_law_hosts", "_law_word", "_law_entries", "_law_words", "_law_text", "_law_tokens", "_law_sign", "_law_takes", "_law_asked", "_law_told"] : List String).map Str.ofString
noncomputable def lookF (p q : Program) (loose : List Str) (K₀ : List (Nat × Obj)) (x₀ : Nat -> Obj) (os₀ : OsState) (K : List (Nat × Obj)) (x : Nat -> Obj) (os : OsState) :=
 Aeb p (fun p s => (openSeen q loose (importedModules p.main.body) (fun s => xlAt q [] s && recOk [] s) true s, obsZ asA s)) (importedModules p.main.body) K₀ x₀ 34 318 os₀ K x 884 1573 os
noncomputable def goodF (q : Program) (loose : List Str) := openGood q loose
noncomputable def bodF (p : Program) : List Stmt := behindTheImports p
end Mine
lay_quick Mine.openF Mine.preF Mine.thrF Mine.segF Mine.blkF Mine.begF Mine.lookF Mine.goodF Mine.bodF
end
section
open PySem.Calls
namespace Mine
noncomputable abbrev qv : Program := view pw [42]
noncomputable def bM : List Stmt := behindTheImports pw
noncomputable def eM : Env := { scope := pw.main.scope, locals := mainNs, globals := mainNs, cells := [], code := .ref 36, frame := some 37 }
noncomputable def cM : Code := .body bM eM
noncomputable def aM : Option Value := some (.ref 6)
noncomputable def z0 : Pos := ⟨0, 0, 0, 0⟩
theorem sO (w : World) : PySem.W.Fast.tw8276926795203777917 pw 14000 ((K0 w.params).map Prod.fst) w = some (Lg (K0 w.params) 34 318) := by kernel_rfl
theorem sG (w : World) (x : Nat -> Obj) (os : OsState) : PySem.W.Fast.tw16558446251634978512 (K0 w.params) x 34 318 os = (true, aM) := by kernel_rfl
theorem sP (w : World) (x : Nat -> Obj) (os : OsState) : PySem.W.Fast.tw5435538719063004294 pw 34 aM 12 (K0 w.params) x 34 318 os ((K1 w.params).map Prod.fst) w = some (Lg (K1 w.params) 38 324, PySem.W.Fast.tw18026473983207465230 cM z0 z0) := by kernel_rfl
theorem sB (w : World) (x : Nat -> Obj) (os : OsState) : PySem.W.Fast.tw4401020736179783254 pw 34 aM 1 (K1 w.params) x 38 324 os ((K1 w.params).map Prod.fst) w bM eM cM z0 z0 = some (.next, Lg (K1 w.params) 38 324, cM, z0) := by kernel_rfl
theorem s1 (w : World) (x : Nat -> Obj) (os : OsState) : PySem.W.Fast.tw16661910868205598516 pw 34 aM 460 (K1 w.params) x 38 324 os ((K2 w.params).map Prod.fst) w ((bM.drop 0).take 5) eM cM z0 z0 = some (.next, Lg (K2 w.params) 92 431, cM, ⟨51, 0, 51, 8⟩) := by kernel_rfl
noncomputable abbrev Pd (w : World) (b1 b2 : Bool) : World := (w.withFollow "special-get-raises" b2).withFollow "comprehension-iter-twice" b1
theorem Ane (w : World) (x : Nat -> Obj) (os : OsState) : PySem.W.Fast.tw16661910868205598516 pw 34 aM 1300 (K2 (Pd w false false).params) x 92 431 os ((K3 (Pd w false false).params).map Prod.fst) (Pd w false false) ((bM.drop 5).take 1) eM cM ⟨51, 0, 51, 8⟩ z0 = some (.next, Lg (K3 (Pd w false false).params) 97 577, cM, ⟨52, 0, 52, 18⟩) := by kernel_rfl
theorem Amw (w : World) (x : Nat -> Obj) (os : OsState) : PySem.W.Fast.tw16661910868205598516 pw 34 aM 1300 (K2 (Pd w false true).params) x 92 431 os ((K3 (Pd w false true).params).map Prod.fst) (Pd w false true) ((bM.drop 5).take 1) eM cM ⟨51, 0, 51, 8⟩ z0 = some (.next, Lg (K3 (Pd w false true).params) 97 577, cM, ⟨52, 0, 52, 18⟩) := by kernel_rfl
theorem Amn (w : World) (x : Nat -> Obj) (os : OsState) : PySem.W.Fast.tw16661910868205598516 pw 34 aM 1300 (K2 (Pd w true false).params) x 92 431 os ((K3 (Pd w true false).params).map Prod.fst) (Pd w true false) ((bM.drop 5).take 1) eM cM ⟨51, 0, 51, 8⟩ z0 = some (.next, Lg (K3 (Pd w true false).params) 97 577, cM, ⟨52, 0, 52, 18⟩) := by kernel_rfl
theorem Amy (w : World) (x : Nat -> Obj) (os : OsState) : PySem.W.Fast.tw16661910868205598516 pw 34 aM 1300 (K2 (Pd w true true).params) x 92 431 os ((K3 (Pd w true true).params).map Prod.fst) (Pd w true true) ((bM.drop 5).take 1) eM cM ⟨51, 0, 51, 8⟩ z0 = some (.next, Lg (K3 (Pd w true true).params) 97 577, cM, ⟨52, 0, 52, 18⟩) := by kernel_rfl
theorem s2 (w : World) (x : Nat -> Obj) (os : OsState) : PySem.W.Fast.tw16661910868205598516 pw 34 aM 1300 (K2 w.params) x 92 431 os ((K3 w.params).map Prod.fst) w ((bM.drop 5).take 1) eM cM ⟨51, 0, 51, 8⟩ z0 = some (.next, Lg (K3 w.params) 97 577, cM, ⟨52, 0, 52, 18⟩) :=
 byRow2 "comprehension-iter-twice" (P := fun w => PySem.W.Fast.tw16661910868205598516 pw 34 aM 1300 (K2 w.params) x 92 431 os ((K3 w.params).map Prod.fst) w ((bM.drop 5).take 1) eM cM ⟨51, 0, 51, 8⟩ z0 = some (.next, Lg (K3 w.params) 97 577, cM, ⟨52, 0, 52, 18⟩))
  (byRow2 "special-get-raises" (P := fun w => PySem.W.Fast.tw16661910868205598516 pw 34 aM 1300 (K2 (w.withFollow "comprehension-iter-twice" false).params) x 92 431 os ((K3 (w.withFollow "comprehension-iter-twice" false).params).map Prod.fst) (w.withFollow "comprehension-iter-twice" false) ((bM.drop 5).take 1) eM cM ⟨51, 0, 51, 8⟩ z0 = some (.next, Lg (K3 (w.withFollow "comprehension-iter-twice" false).params) 97 577, cM, ⟨52, 0, 52, 18⟩)) (fun w => Ane w x os) (fun w => Amw w x os))
  (byRow2 "special-get-raises" (P := fun w => PySem.W.Fast.tw16661910868205598516 pw 34 aM 1300 (K2 (w.withFollow "comprehension-iter-twice" true).params) x 92 431 os ((K3 (w.withFollow "comprehension-iter-twice" true).params).map Prod.fst) (w.withFollow "comprehension-iter-twice" true) ((bM.drop 5).take 1) eM cM ⟨51, 0, 51, 8⟩ z0 = some (.next, Lg (K3 (w.withFollow "comprehension-iter-twice" true).params) 97 577, cM, ⟨52, 0, 52, 18⟩)) (fun w => Amn w x os) (fun w => Amy w x os)) w
theorem s3 (w : World) (x : Nat -> Obj) (os : OsState) : PySem.W.Fast.tw16661910868205598516 pw 34 aM 1060 (K3 w.params) x 97 577 os ((K4 w.params).map Prod.fst) w ((bM.drop 6).take 10) eM cM ⟨52, 0, 52, 18⟩ z0 = some (.next, Lg (K4 w.params) 184 713, cM, ⟨146, 0, 147, 21⟩) := by kernel_rfl
theorem s4 (w : World) (x : Nat -> Obj) (os : OsState) : PySem.W.Fast.tw16661910868205598516 pw 34 aM 1290 (K4 w.params) x 184 713 os ((K5 w.params).map Prod.fst) w ((bM.drop 16).take 1) eM cM ⟨146, 0, 147, 21⟩ z0 = some (.next, Lg (K5 w.params) 414 975, cM, ⟨148, 0, 317, 17⟩) := by kernel_rfl
theorem s5 (w : World) (x : Nat -> Obj) (os : OsState) : PySem.W.Fast.tw16661910868205598516 pw 34 aM 1590 (K5 w.params) x 414 975 os ((K6 w.params).map Prod.fst) w ((bM.drop 17).take 1) eM cM ⟨148, 0, 317, 17⟩ z0 = some (.next, Lg (K6 w.params) 661 1262, cM, ⟨318, 0, 522, 17⟩) := by kernel_rfl
theorem s6 (w : World) (x : Nat -> Obj) (os : OsState) : PySem.W.Fast.tw16661910868205598516 pw 34 aM 1250 (K6 w.params) x 661 1262 os ((KA w.params).map Prod.fst) w ((bM.drop 18).take 23) eM cM ⟨318, 0, 522, 17⟩ z0 = some (.next, Lg (KA w.params) 884 1573, cM, ⟨919, 0, 926, 107⟩) := by kernel_rfl
theorem sL (w : World) (x₀ x : Nat -> Obj) (os₀ os : OsState) : PySem.W.Fast.tw6502775415989476250 pw qv Ho (K0 w.params) x₀ os₀ (KA w.params) x os = (true, PySem.W.Fast.tw4208135344925943067 qv Ho, valZ KA 884 1573 w) := by kernel_rfl
end Mine
end
section
open PySem.Calls
namespace Mine
noncomputable abbrev G6 {f g : OpenLaw -> Bool} (F : OpenLaw -> Bool) (_ : ∀ l, F l = (f l && g l)) : OpenLaw -> Bool := f
noncomputable abbrev G2 {f g : OpenLaw -> Bool} (F : OpenLaw -> Bool) (_ : ∀ l, F l = (f l && g l)) : OpenLaw -> Bool := g
noncomputable def wA1 := G6 OpenLaw.wellSaid fun l => rfl
noncomputable def wB1 := G2 OpenLaw.wellSaid fun l => rfl
noncomputable def wA2 := G6 wA1 fun l => rfl
noncomputable def wB2 := G2 wA1 fun l => rfl
noncomputable def wA3 := G6 wA2 fun l => rfl
noncomputable def wB3 := G2 wA2 fun l => rfl
noncomputable def wA4 := G6 wA3 fun l => rfl
noncomputable def wB4 := G2 wA3 fun l => rfl
noncomputable def wA5 := G6 wA4 fun l => rfl
noncomputable def wB5 := G2 wA4 fun l => rfl
noncomputable def wA6 := G6 wA5 fun l => rfl
noncomputable def wB6 := G2 wA5 fun l => rfl
noncomputable def wA7 := G6 wA6 fun l => rfl
noncomputable def wB7 := G2 wA6 fun l => rfl
noncomputable def wA8 := G6 wA7 fun l => rfl
noncomputable def wB8 := G2 wA7 fun l => rfl
noncomputable def wA9 := G6 wA8 fun l => rfl
noncomputable def wB9 := G2 wA8 fun l => rfl
noncomputable def Aho := G6 wA9 fun l => rfl
noncomputable def Adn := G2 wA9 fun l => rfl
noncomputable def Akh := G6 Aho fun l => rfl
noncomputable def Acz := G2 Aho fun l => rfl
noncomputable def Aj5 := G6 Akh fun l => rfl
noncomputable def Adm := G2 Akh fun l => rfl
noncomputable def Ak3 := G6 Aj5 fun l => rfl
noncomputable def Acm := G2 Aj5 fun l => rfl
noncomputable def Akv := G6 Ak3 fun l => rfl
noncomputable def Abw := G2 Ak3 fun l => rfl
noncomputable def Aie := G6 Akv fun l => rfl
noncomputable def Ac3 := G2 Akv fun l => rfl
noncomputable def Ahw := G6 Aie fun l => rfl
noncomputable def Aep := G2 Aie fun l => rfl
noncomputable def Amp := G6 Ahw fun l => rfl
noncomputable def Ac5 := G2 Ahw fun l => rfl
noncomputable def Af7 := G2 Amp fun l => rfl
noncomputable def vA1 := G6 (fun l : OpenLaw => l.row.wellSaid) fun l => rfl
noncomputable def vB1 := G2 (fun l : OpenLaw => l.row.wellSaid) fun l => rfl
noncomputable def vA2 := G6 vA1 fun l => rfl
noncomputable def vB2 := G2 vA1 fun l => rfl
noncomputable def vA3 := G6 vA2 fun l => rfl
noncomputable def vB3 := G2 vA2 fun l => rfl
noncomputable def vA4 := G6 vA3 fun l => rfl
noncomputable def vB4 := G2 vA3 fun l => rfl
noncomputable def vA5 := G6 vA4 fun l => rfl
noncomputable def vB5 := G2 vA4 fun l => rfl
noncomputable def vA6 := G6 vA5 fun l => rfl
noncomputable def vB6 := G2 vA5 fun l => rfl
noncomputable def vA7 := G6 vA6 fun l => rfl
noncomputable def vB7 := G2 vA6 fun l => rfl
noncomputable def vA8 := G6 vA7 fun l => rfl
noncomputable def vB8 := G2 vA7 fun l => rfl
noncomputable def vA9 := G6 vA8 fun l => rfl
noncomputable def vB9 := G2 vA8 fun l => rfl
noncomputable def Ai8 := G6 vA9 fun l => rfl
noncomputable def Af2 := G2 vA9 fun l => rfl
noncomputable def Ah8 := G6 Ai8 fun l => rfl
noncomputable def Aea := G2 Ai8 fun l => rfl
noncomputable def Aiz := G6 Ah8 fun l => rfl
noncomputable def Aen := G2 Ah8 fun l => rfl
noncomputable def Ai1 := G6 Aiz fun l => rfl
noncomputable def Ade := G2 Aiz fun l => rfl
noncomputable def Ahr := G6 Ai1 fun l => rfl
noncomputable def Aew := G2 Ai1 fun l => rfl
noncomputable def Ahi := G6 Ahr fun l => rfl
noncomputable def Abv := G2 Ahr fun l => rfl
noncomputable def Ajn := G6 Ahi fun l => rfl
noncomputable def Ak7 := G2 Ahi fun l => rfl
noncomputable def Aku := G6 Ajn fun l => rfl
noncomputable def Zl := G2 Ajn fun l => rfl
noncomputable def Aif := G6 Aku fun l => rfl
noncomputable def Acr := G2 Aku fun l => rfl
noncomputable def Al4 := G6 Aif fun l => rfl
noncomputable def Ak6 := G2 Aif fun l => rfl
noncomputable def wR (l : OpenLaw) : Bool := ((((((((((((((((true && Af7 l) && Ac5 l) && Aep l) && Ac3 l) && Abw l) && Acm l) && Adm l) && Acz l) && Adn l) && wB9 l) && wB8 l) && wB7 l) && wB6 l) && wB5 l) && wB4 l) && wB3 l)
noncomputable def vR (l : OpenLaw) : Bool := ((((((((((((((((true && Acr l) && Abv l) && Aew l) && Ade l) && Aen l) && Aea l) && Af2 l) && vB9 l) && vB8 l) && vB7 l) && vB6 l) && vB5 l) && vB4 l) && vB3 l) && vB2 l) && vB1 l)
noncomputable def lkF : OpenLaw -> Look := (fun (f : OpenLaw -> Look) (_ : ∀ l, Zl l = noRoadLSs (f l) l.row.prog.main.body) => f) _ (fun l => rfl)
noncomputable def nrF (l : OpenLaw) (a b : Nat) : Bool := noRoadLSs { lkF l with bare := [] } ((l.row.prog.main.body.drop a).take b)
noncomputable def roF (l : OpenLaw) (n : Str) : Bool := readsOut l.row.prog l.row.prog.main.body n
noncomputable def twF (l : OpenLaw) : Bool := l.prog.tablesWhole
end Mine
lay_quick Mine.nrF Mine.roF Mine.twF
end
section
open PySem.Calls
namespace Mine
noncomputable abbrev Io : OpenLaw := PySem.Challenge.rw_aa0009_01
theorem Kr (lk : Look) : ∀ a b : List Stmt, noRoadLSs lk (a ++ b) = (noRoadLSs lk a && noRoadLSs lk b)
 | [], b => by rw [noRoadLSs]; rfl
 | s :: a, b => by rw [List.cons_append, noRoadLSs, noRoadLSs, Kr lk a b, Bool.and_assoc]
theorem Dn {lk : Look} {b : List Stmt} (i j : Nat) (h : noRoadLSs lk ((b.drop i).take j) = true) (k : noRoadLSs lk (b.drop (i + j)) = true) : noRoadLSs lk (b.drop i) = true := by
 have e : b.drop i = (b.drop i).take j ++ b.drop (i + j) := by rw [<- List.drop_drop, List.take_append_drop]
 rw [e, Kr, h, k]; rfl
theorem kB1 : wB1 Io = true := by kernel_rfl
theorem kB2 : wB2 Io = true := by kernel_rfl
theorem kR : wR Io = true := by kernel_rfl
theorem kV : vR Io = true := by kernel_rfl
theorem Eo : Ak7 Io = true := by kernel_rfl
theorem k19 : Ak6 Io = true := by kernel_rfl
theorem Amf : Al4 Io = true := by kernel_rfl
theorem kr0 : PySem.W.Fast.tw6990441928770296388 Io "vars" = false := by kernel_rfl
theorem kr1 : PySem.W.Fast.tw6990441928770296388 Io "dir" = false := by kernel_rfl
theorem kr2 : PySem.W.Fast.tw6990441928770296388 Io "locals" = false := by kernel_rfl
theorem kn0 : PySem.W.Fast.tw3821630923755492966 Io 0 18 = true := by kernel_rfl
theorem kn1 : PySem.W.Fast.tw3821630923755492966 Io 18 1 = true := by kernel_rfl
theorem kn2 : PySem.W.Fast.tw3821630923755492966 Io 19 1 = true := by kernel_rfl
theorem kn3 : PySem.W.Fast.tw3821630923755492966 Io 20 8 = true := by kernel_rfl
theorem kn4 : PySem.W.Fast.tw3821630923755492966 Io 28 1 = true := by kernel_rfl
theorem kn5 : PySem.W.Fast.tw3821630923755492966 Io 29 14 = true := by kernel_rfl
theorem Z7 (l : OpenLaw) : (lkF l).bare = (["vars", "dir", "locals"] : List Str).filter (roF l) := rfl
theorem Afc (l : OpenLaw) : Zl l = noRoadLSs (lkF l) l.row.prog.main.body := rfl
theorem Aef : (lkF Io).bare = [] := by
 have e : roF = _ := PySem.W.Fast.te6990441928770296388
 have h0 := kr0
 have h1 := kr1
 have h2 := kr2
 rw [<- e] at h0 h1 h2
 rw [Z7, List.filter_cons, h0, List.filter_cons, h1, List.filter_cons, h2]; rfl
theorem Ee : Zl Io = true := by
 have e : nrF = _ := PySem.W.Fast.te3821630923755492966
 have hl : ({ lkF Io with bare := [] } : Look) = lkF Io := by rw [<- Aef]
 rw [Afc, <- hl]
 have g : ∀ {a b : Nat}, PySem.W.Fast.tw3821630923755492966 Io a b = true -> noRoadLSs { lkF Io with bare := [] } ((Io.row.prog.main.body.drop a).take b) = true := fun {a b} h => by rw [<- e] at h; exact h
 have z : noRoadLSs { lkF Io with bare := [] } (Io.row.prog.main.body.drop 43) = true := by kernel_rfl
 exact Dn 0 18 (g kn0) (Dn 18 1 (g kn1) (Dn 19 1 (g kn2) (Dn 20 8 (g kn3) (Dn 28 1 (g kn4) (Dn 29 14 (g kn5) z)))))
theorem Acy (l : OpenLaw) : l.row.wellSaid = (((((((((((((((((((Al4 l && Ak6 l) && Acr l) && Zl l) && Ak7 l) && Abv l) && Aew l) && Ade l) && Aen l) && Aea l) && Af2 l) && vB9 l) && vB8 l) && vB7 l) && vB6 l) && vB5 l) && vB4 l) && vB3 l) && vB2 l) && vB1 l) := rfl
theorem Ajc (l : OpenLaw) : vR l = ((((((((((((((((true && Acr l) && Abv l) && Aew l) && Ade l) && Aen l) && Aea l) && Af2 l) && vB9 l) && vB8 l) && vB7 l) && vB6 l) && vB5 l) && vB4 l) && vB3 l) && vB2 l) && vB1 l) := rfl
theorem Zy (l : OpenLaw) : OpenLaw.wellSaid l = ((((((((((((((((((l.row.wellSaid && Af7 l) && Ac5 l) && Aep l) && Ac3 l) && Abw l) && Acm l) && Adm l) && Acz l) && Adn l) && wB9 l) && wB8 l) && wB7 l) && wB6 l) && wB5 l) && wB4 l) && wB3 l) && wB2 l) && wB1 l) := rfl
theorem Ai5 (l : OpenLaw) : wR l = ((((((((((((((((true && Af7 l) && Ac5 l) && Aep l) && Ac3 l) && Abw l) && Acm l) && Adm l) && Acz l) && Adn l) && wB9 l) && wB8 l) && wB7 l) && wB6 l) && wB5 l) && wB4 l) && wB3 l) := rfl
theorem Ai9 : Io.row.wellSaid = true := by
 have h' := kV
 rw [Ajc] at h'
 rw [Acy, Amf, k19, Ee, Eo]
 simpa only [Bool.true_and, Bool.and_true] using h'
theorem Aeg : OpenLaw.wellSaid Io = true := by
 rw [Zy, Ai9, <- Ai5, kR, kB2, kB1]; rfl
theorem X4 : pw.bare := ⟨rfl, rfl, rfl, rfl, rfl, by
 have e : twF = _ := PySem.W.Fast.te5167600021409011639
 have h : twF Io = true := by rw [e]; kernel_rfl
 exact h⟩
end Mine
end
section
open PySem.Calls
namespace Mine
noncomputable def Od : DefRec := match B5 pw.main.body 42 with
 | .FunctionDef n a b _ _ _ sc _ _ p => ⟨n, a, b, sc, p⟩
 | _ => ⟨⟨#[]⟩, ⟨[], [], none, [], [], none, []⟩, [], ⟨.module, [], false, false, []⟩, ⟨0, 0, 0, 0⟩⟩
theorem Afb : defOf qv PySem.Challenge.rw_aa0009_01.row.name = some (Od, []) := by kernel_rfl
theorem Acc : PySem.Challenge.rw_aa0009_01.row.prog.theDef PySem.Challenge.rw_aa0009_01.row.name = some (Od.params, Od.body, Od.scope) := by kernel_rfl
theorem Aid : kwWritten? Od.params.kwonlyargs Od.params.kw_defaults = some [] := by kernel_rfl
theorem Ajz : (chainsOk qv && opensWell pw && (frees PySem.Challenge.rw_aa0009_01.row.toRowW && PySem.Challenge.rw_aa0009_01.row.toRowW.within.isEmpty)) = true := by decide +kernel
theorem Aer : PySem.Challenge.rw_aa0009_01.row.toRowW.promised := by w_witness2
theorem Ip {N : Nat} {K K' : List (Nat × Obj)} {x : Nat -> Obj} {n k n' k' : Nat} {os : OsState} {w : World} {l : List Stmt} {pos pos' : Pos} (hn : Nat.ble n' 1000 = true)
  (h : PySem.W.Fast.tw16661910868205598516 pw 34 aM N K x n k os (K'.map Prod.fst) w l eM cM pos z0 = some (.next, Lg K' n' k', cM, pos')) :
  ∃ x' os', segRun treeTable pw w 34 aM 1 N (Gu K x n k os).abs (piecesOf l eM cM pos [topFrame z0]) = some (.next, (Gu K' x' n' k' os').abs, cM, pos') := by
 have e : segF = _ := PySem.W.Fast.te16661910868205598516
 rw [<- e] at h
 exact Vv hn h
theorem Zd : LeftO pw qv Ho (fun s => xlAt qv [] s && recOk [] s) (obsZ asA) (valZ KA 884 1573) 14000 := fun w => by
 have eO : openF = _ := PySem.W.Fast.te8276926795203777917
 have eG : begF = _ := PySem.W.Fast.te16558446251634978512
 have eP : preF = _ := PySem.W.Fast.te5435538719063004294
 have eT : thrF = _ := PySem.W.Fast.te18026473983207465230
 have eB : blkF = _ := PySem.W.Fast.te4401020736179783254
 have eL : @lookF = _ := PySem.W.Fast.te6502775415989476250
 have eg : goodF = _ := PySem.W.Fast.te4208135344925943067
 obtain ⟨x0, os0, hO⟩ := Yz rfl (by rw [eO]; exact sO w)
 have hG : begF (K0 w.params) x0 34 318 os0 = (true, aM) := by rw [eG]; exact sG w x0 os0
 obtain ⟨x1, os1, hP⟩ := Aca (K' := K1 w.params) (n' := 38) (k' := 324) (t := thrF cM z0 z0) rfl (by rw [eP, eT]; exact sP w x0 os0)
 obtain ⟨xb, osb, hB⟩ := Vv (K' := K1 w.params) (n' := 38) (k' := 324) (t := blockOf bM eM cM z0 [topFrame z0]) rfl (by
  have h := sB w x1 os1
  rw [<- eB] at h
  exact h)
 obtain ⟨x2, os2, h1⟩ := Ip rfl (s1 w xb osb)
 obtain ⟨x3, os3, h2⟩ := Ip rfl (s2 w x2 os2)
 obtain ⟨x4, os4, h3⟩ := Ip rfl (s3 w x3 os3)
 obtain ⟨x5, os5, h4⟩ := Ip rfl (s4 w x4 os4)
 obtain ⟨x6, os6, h5⟩ := Ip rfl (s5 w x5 os5)
 obtain ⟨x7, os7, h6⟩ := Ip rfl (s6 w x6 os6)
 have hE : topRun treeTable pw w 34 aM 2 (Gu (KA w.params) x7 884 1573 os7).abs (restOf (bM.drop 41) eM cM ⟨919, 0, 926, 107⟩ [topFrame z0]) = some (Gu (KA w.params) x7 884 1573 os7).abs := by
  have e : bM.drop 41 = [] := by kernel_rfl
  rw [e]
  exact piece_nil (by kernel_rfl)
 have hR := go_top hP (piece_block hB (Ff 0 5 h1 (Ff 5 1 h2 (Ff 6 10 h3 (Ff 16 1 h4 (Ff 17 1 h5 (Ff 18 23 h6 hE)))))))
 refine Xg (look := fun p s => (openSeen qv Ho (importedModules p.main.body) (fun s => xlAt qv [] s && recOk [] s) true s, obsZ asA s)) (v := (openGood qv Ho, valZ KA 884 1573 w)) hO hG hR rfl ?_
 have h := sL w x0 x7 os0 os7
 rw [<- eL, <- eg] at h
 exact h
theorem hd (walk : WalkX qv Ho (XL qv []) (obsZ asA) (valZ KA 884 1573) PySem.Challenge.rw_aa0009_01.row.toRowW Od [] (fun f vs => PySem.call f vs)) : PySem.Challenge.rw_aa0009_01.Holds :=
 holds_law Aeg fun said => holds_openX (r := PySem.Challenge.rw_aa0009_01.row) (q := qv) (loose := Ho) (Xt := fun s => xlAt qv [] s && recOk [] s) (XP := XL qv []) (Yf := obsZ asA) (Ya := valZ KA 884 1573) (d := Od) (kwd := []) (N := 14000)
  Zd (fun s e => xl_of s (Bool.and_eq_true_iff.mp e).1) XL.keeps Afb Acc Aid (fun s e => recFacts_of (Bool.and_eq_true_iff.mp e).2) rfl said Ajz X4 Aer walk
end Mine
end
namespace Mine
theorem Xj (P : Params) : KT.of (KQ P) = Mq P := by kernel_rfl
noncomputable def Qw (t : KT) (c : Nat) : Value := match t.get c with | some o => o.cls | none => .none
noncomputable def R8 (t : KT) (c : Nat) : Array Value := match t.get c with | some o => (match o.data with | .fields vs => vs | _ => #[]) | none => #[]
noncomputable def Rf (t : KT) (c : Nat) : Bool := match t.get c with | some o => (match o.data with | .fields vs => true | _ => false) | none => false
theorem Aj8 (P : Params) : Qw (Mq P) 851 = .type "code" := by kernel_rfl
theorem Aiv (P : Params) : Rf (Mq P) 851 = true := by kernel_rfl
theorem Agz (P : Params) : (R8 (Mq P) 851)[11]? = some (.ref 847) := by kernel_rfl
theorem Agx (P : Params) : Qw (Mq P) 109 = .type "code" := by kernel_rfl
theorem Ag8 (P : Params) : Rf (Mq P) 109 = true := by kernel_rfl
theorem Aj4 (P : Params) : (R8 (Mq P) 109)[11]? = some (.ref 105) := by kernel_rfl
theorem O4 {t : KT} {h : Heap} {c b : Nat} (H : KT.Holds h 1 0 t) (h1 : Qw t c = .type "code") (h2 : Rf t c = true) (h3 : (R8 t c)[11]? = some (.ref b)) : isCodeTable h b := by
 unfold Qw at h1
 unfold Rf at h2
 unfold R8 at h3
 split at h1
 case h_2 => cases h1
 rename_i o e
 rw [e] at h2 h3
 dsimp only at h2 h3
 split at h2
 case h_2 => cases h2
 rename_i vs e2
 rw [e2] at h3
 exact ⟨c, o, vs, kt_at H e, h1, e2, h3⟩
theorem Rv {vs : List Value} {ns : List Int} (h : IntsAre vs ns) : IntsV vs ns := by
 induction h with
 | nil => exact .nil
 | cons n t _ ih => exact .cons n t ih
theorem Qm {h₀ h : Heap} {b : Nat} {o o' : Obj} (hc : isCodeTable h₀ b) (e : h₀.get? b = some B9) (eo : h₀.get? b = some o) (e' : h.get? b = some o') (ho' : ∃ more, o' = ⟨.none, none, .fields more, #[]⟩) : asItWas h₀ h b o := by
 rw [e] at eo
 cases eo
 obtain ⟨more, rfl⟩ := ho'
 exact .inr (.inl ⟨hc, rfl, #[], more, rfl, by rw [e']; simp [B9]⟩)
theorem Ua {h : Heap} {K : Frag} {t : KT} (A : AllIn h K) (e : KT.of K = t) : KT.Holds h 1 0 t := by
 subst e
 exact holds_of A
theorem join_ok {w : World} {s₀ s₁ : Shared} {vs : List Value} {ns : List Int} (ZA : AllIn s₀.heap (KA w.params)) (ZN : s₀.heap.objs.size = 884) (htk : 1573 <= s₁.toks) (keeps : ∀ b o, s₀.heap.get? b = some o -> s₁.heap.get? b = some o) (hsz : s₁.heap.objs.size = 885)
  (hobj : s₁.heap.get? 884 = some (A9 vs 0)) (hI : IntsAre vs ns) (hl : ns.length <= 63) (hg : s₁.gens = #[]) :
  codeAny (model pw w) callerA (.call (.ref 883) ⟨[.ref 884], []⟩) (fun r s' => r = .ok (.ret (.bool true)) /\ OldK s₁.heap s'.heap /\ s'.os = s₁.os /\ AllBare s'.gens) s₁ := by
 have H0 : KT.Holds s₀.heap 1 0 (Mq w.params) := Ua ZA.2.2 (Xj w.params)
 have H1 : KT.Holds s₁.heap 1 0 (Mq w.params) := KT.Holds.keeps keeps H0
 have g847 : s₁.heap.get? 847 = some B9 := keeps _ _ ZA.1
 have g105 : s₁.heap.get? 105 = some B9 := keeps _ _ ZA.2.1
 have hIV := Rv hI
 have hlv : vs.length <= 900 := by rw [hIV.length]; omega
 have At0 : At w s₁ [(884, A9 vs 0), (847, B9), (105, B9)] := {
  gens := hg
  top := fun a o e => by
   have z := kt_at H0 e
   exact ⟨keeps _ _ z, Nat.lt_of_lt_of_eq (Heap.lt_size z) ZN⟩
  size := by omega
  toks := htk
  own := fun p hp => by
   simp only [List.mem_cons, List.not_mem_nil, or_false] at hp
   rcases hp with rfl | rfl | rfl
   ·exact hobj
   ·exact g847
   ·exact g105
  nd := by show [884, 847, 105].Nodup; decide
  hi := fun p hp => by
   simp only [List.mem_cons, List.not_mem_nil, or_false] at hp
   rcases hp with rfl | rfl | rfl <;> simp }
 have key := Ad4 (U := ⟨w.params.followText "special-get-raises", w, w.params.followText "comprehension-iter-twice", w.params.followText "fstring-hands-on-the-str"⟩) (S := 884) (n := 0) (A := callerA) (s := s₁)
  (R := fun r s' => r = .ok (.ret (.bool true)) /\ OldK s₁.heap s'.heap /\ s'.os = s₁.os /\ AllBare s'.gens) hIV hlv rfl (by decide +kernel) (by decide +kernel) rfl rfl hsz (by rw [Qd]; exact At0) (by
   intro s' o7 tb h7 htb H' K'
   rw [Qd] at H'
   have o884 := H'.own _ (.head _)
   have o847 := H'.own _ (.tail _ (.head _))
   have o105 := H'.own _ (.tail _ (.tail _ (.head _)))
   refine ⟨rfl, ⟨fun b o e => ?_, fun b o e => ?_⟩, K'.os, AllBare.of_eq H'.gens⟩
   ·by_cases h1 : b = 884
    ·subst h1
     rw [hobj] at e
     cases e
     exact .inl o884
    by_cases h2 : b = 847
    ·subst h2
     exact Qm (O4 H1 (Aj8 _) (Aiv _) (Agz _)) g847 e o847 h7
    by_cases h3 : b = 105
    ·subst h3
     refine Qm (O4 H1 (Agx _) (Ag8 _) (Aj4 _)) g105 e o105 ?_
     rcases htb with rfl | ⟨X, rfl⟩
     ·exact ⟨_, rfl⟩
     ·exact ⟨_, rfl⟩
    exact .inl (K'.keep _ _ e (by simp [h1, h2, h3]))
   ·by_cases h1 : b = 884
    ·subst h1; exact ⟨_, o884⟩
    by_cases h2 : b = 847
    ·subst h2; exact ⟨_, o847⟩
    by_cases h3 : b = 105
    ·subst h3; exact ⟨_, o105⟩
    exact ⟨o, K'.keep _ _ e (by simp [h1, h2, h3])⟩)
 rw [Qd] at key
 exact key
end Mine
end
theorem PySem.Challenge.cw_aa0009_01_holds : PySem.Challenge.rw_aa0009_01.Holds := by
 refine Mine.hd ?_
 intro w s₀ s₁ mg mb G y fa o pm cd doc dV kV ho hd hcd hD hmg hg args vals as L hpre hlay hrd hwl hlo
 clear ho hd hcd hD
 obtain ⟨ZA, ZI, ZN, ZT⟩ := z_facts (fun P => by kernel_rfl) y
 have KX : Frag.In (Mine.KA w.params) s₁.heap := InK.keeps w _ _ ZI L.keeps
 refine Ground.open G ?_
 intro T B D TE TW
 wrow_args hpre hlay hrd hwl hlo
 obtain ⟨hat, hsz⟩ := script_at L
 have htk := script_toks L ZT
 rw [ZN] at hat hsz
 subst hat
 x_fa T KX hmg
 clear T B D TE TW G y
 have hI := ‹IntsAre _ _›
 have hLi := ‹s₁.heap.IsList 884 _›
 have hc := ‹¬ (_ : Int) < _›
 have hobj := script_obj L hLi
 have J := Mine.join_ok (w := w) ZA ZN htk L.keeps hsz hobj hI (by omega) hg
 refine wpAny_call (codeAny_mono J fun r s' h => ?_)
 obtain ⟨rfl, hK, hos, hb⟩ := h
 exact ⟨.inl ⟨.bool true, .bool true, [], rfl, fun _ => rfl, .bool true, (by first | kernel_rfl | with_unfolding_all rfl), fun _ => ⟨List.nodup_nil, fun a ha => by cases ha⟩⟩, hK, hos, hb⟩
