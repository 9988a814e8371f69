import PyProof.Rows.All
import Wide.All
import OpenK.AllK
import Wide.FinOn
import PySem.Challenge.RW_oc0074_01
set_option Elab.async false
set_option linter.all false
section
set_option Elab.async false
set_option genSizeOf false
set_option genInjectivity false
namespace Mine
/-- a linear term; its vars stand in a list -/
inductive Lin where
  | v (i : Nat)
  | n (k : Nat)
  | a (x y : Lin)
  | m (k : Nat) (x : Lin)
  | r (x : Lin) (k : Nat)
noncomputable def lAt (l : List Nat) (i : Nat) : Nat := @List.rec Nat (fun _ => Nat → Nat) (fun _ => 0) (fun x _ ih i => @Nat.rec (fun _ => Nat) x (fun j _ => ih j) i) l i
noncomputable def Lin.den (l : List Nat) (t : Lin) : Nat := @Lin.rec (fun _ => Nat) (fun i => lAt l i) (fun k => k) (fun _ _ p q => p + q) (fun k _ p => k * p) (fun _ k p => p * k) t
noncomputable def dot (c l : List Nat) : Nat := @List.rec Nat (fun _ => List Nat → Nat) (fun _ => 0) (fun x _ ih l => x * lAt l 0 + ih l.tail) c l
noncomputable def lAdd (c d : List Nat) : List Nat := @List.rec Nat (fun _ => List Nat → List Nat) (fun d => d) (fun x _ ih d => Nat.add x (lAt d 0) :: ih d.tail) c d
noncomputable def lOne (i : Nat) : List Nat := @Nat.rec (fun _ => List Nat) [1] (fun _ ih => 0 :: ih) i
/-- first the number, then the vars' weights -/
noncomputable def Lin.cl (t : Lin) : List Nat := @Lin.rec (fun _ => List Nat) (fun i => 0 :: lOne i) (fun k => [k]) (fun _ _ p q => lAdd p q) (fun k _ p => p.map (Nat.mul k)) (fun _ k p => p.map (Nat.mul k)) t
noncomputable def lLe (c d : List Nat) : Bool := @List.rec Nat (fun _ => List Nat → Bool) (fun _ => true) (fun x _ ih d => @Bool.rec (fun _ => Bool) false (ih d.tail) (Nat.ble x (lAt d 0))) c d
theorem lAt_tail : ∀ (l : List Nat) (i : Nat), lAt l.tail i = lAt l (i + 1)
  | [], _ => rfl
  | _ :: _, _ => rfl
theorem dot_add : ∀ (c d l : List Nat), dot (lAdd c d) l = dot c l + dot d l
  | [], d, l => (Nat.zero_add _).symm
  | x :: c, [], l => by
    show (x + 0) * lAt l 0 + dot (lAdd c []) l.tail = (x * lAt l 0 + dot c l.tail) + 0
    rw [dot_add c [] l.tail]; rfl
  | x :: c, y :: d, l => by
    show (x + y) * lAt l 0 + dot (lAdd c d) l.tail = (x * lAt l 0 + dot c l.tail) + (y * lAt l 0 + dot d l.tail)
    rw [dot_add c d l.tail, Nat.add_mul, Nat.add_add_add_comm]
theorem dot_mul (k : Nat) : ∀ (c l : List Nat), dot (c.map (Nat.mul k)) l = k * dot c l
  | [], _ => rfl
  | x :: c, l => by
    show (k * x) * lAt l 0 + dot (c.map (Nat.mul k)) l.tail = k * (x * lAt l 0 + dot c l.tail)
    rw [dot_mul k c l.tail, Nat.mul_add, Nat.mul_assoc]
theorem dot_one : ∀ (i : Nat) (l : List Nat), dot (lOne i) l = lAt l i
  | 0, l => by show 1 * lAt l 0 + 0 = lAt l 0; rw [Nat.one_mul]; rfl
  | i + 1, l => by
    show 0 * lAt l 0 + dot (lOne i) l.tail = lAt l (i + 1)
    rw [dot_one i l.tail, Nat.zero_mul, Nat.zero_add, lAt_tail]
theorem Lin.den_eq (l : List Nat) : ∀ t : Lin, t.den l = dot t.cl (1 :: l)
  | .v i => by show lAt l i = 0 * 1 + dot (lOne i) l; rw [dot_one, Nat.zero_mul, Nat.zero_add]
  | .n k => (Nat.mul_one k).symm
  | .a x y => by show x.den l + y.den l = dot (lAdd x.cl y.cl) (1 :: l); rw [dot_add, Lin.den_eq l x, Lin.den_eq l y]
  | .m k x => by show k * x.den l = dot (x.cl.map (Nat.mul k)) (1 :: l); rw [dot_mul, Lin.den_eq l x]
  | .r x k => by show x.den l * k = dot (x.cl.map (Nat.mul k)) (1 :: l); rw [dot_mul, Lin.den_eq l x, Nat.mul_comm]
theorem dot_le : ∀ (c d l : List Nat), lLe c d = true → dot c l ≤ dot d l
  | [], _, _, _ => Nat.zero_le _
  | x :: c, d, l, h => by
    have h' : @Bool.rec (fun _ => Bool) false (lLe c d.tail) (Nat.ble x (lAt d 0)) = true := h
    cases e : Nat.ble x (lAt d 0) with
    | false => rw [e] at h'; cases h'
    | true =>
      rw [e] at h'
      have q : dot d l = lAt d 0 * lAt l 0 + dot d.tail l.tail := by
        cases d with
        | nil => show 0 = 0 * lAt l 0 + 0; rw [Nat.zero_mul]
        | cons y d => rfl
      rw [q]
      exact Nat.add_le_add (Nat.mul_le_mul_right _ (Nat.le_of_ble_eq_true e)) (dot_le c d.tail l.tail h')
noncomputable def lCk (x y : Lin) : Bool := lLe x.cl y.cl
theorem fkK {k : Nat} {x y a b : Lin} (h : lCk (.a (.m k x) (.a b (.n 1))) (.a (.m k y) (.a a (.n k))) = true) {l : List Nat} (q : a.den l ≤ b.den l) : x.den l ≤ y.den l := by
  have p : k * x.den l + (b.den l + 1) ≤ k * y.den l + (a.den l + k) := by
    have := dot_le _ _ (1 :: l) h
    rw [← Lin.den_eq, ← Lin.den_eq] at this
    exact this
  rcases Nat.lt_or_ge (y.den l) (x.den l) with z | z
  · have z' : k * (y.den l + 1) ≤ k * x.den l := Nat.mul_le_mul_left k z
    rw [Nat.mul_add, Nat.mul_one] at z'
    refine absurd (Nat.lt_of_lt_of_le p ?_) (Nat.lt_irrefl _)
    rw [Nat.add_comm (a.den l), ← Nat.add_assoc]
    exact Nat.add_le_add z' q
  · exact z
theorem fk0 (k : Nat) (x y : Lin) (h : lCk (.a (.m k x) (.a (.n 0) (.n 1))) (.a (.m k y) (.a (.n 0) (.n k))) = true) (l : List Nat) : x.den l ≤ y.den l := fkK h (l := l) (Nat.le_refl 0)
theorem fk1 (k k1 : Nat) (x y a1 b1 : Lin) (h : lCk (.a (.m k x) (.a (.m k1 b1) (.n 1))) (.a (.m k y) (.a (.m k1 a1) (.n k))) = true) (l : List Nat) (q : a1.den l ≤ b1.den l) : x.den l ≤ y.den l :=
  fkK h (show k1 * a1.den l ≤ k1 * b1.den l from Nat.mul_le_mul_left k1 q)
theorem fk2 (k k1 k2 : Nat) (x y a1 b1 a2 b2 : Lin) (h : lCk (.a (.m k x) (.a (.a (.m k1 b1) (.m k2 b2)) (.n 1))) (.a (.m k y) (.a (.a (.m k1 a1) (.m k2 a2)) (.n k))) = true) (l : List Nat) (q : a1.den l ≤ b1.den l) (q2 : a2.den l ≤ b2.den l) : x.den l ≤ y.den l :=
  fkK h (show k1 * a1.den l + k2 * a2.den l ≤ k1 * b1.den l + k2 * b2.den l from Nat.add_le_add (Nat.mul_le_mul_left k1 q) (Nat.mul_le_mul_left k2 q2))
theorem fk3 (k k1 k2 k3 : Nat) (x y a1 b1 a2 b2 a3 b3 : Lin) (h : lCk (.a (.m k x) (.a (.a (.a (.m k1 b1) (.m k2 b2)) (.m k3 b3)) (.n 1))) (.a (.m k y) (.a (.a (.a (.m k1 a1) (.m k2 a2)) (.m k3 a3)) (.n k))) = true) (l : List Nat) (q : a1.den l ≤ b1.den l) (q2 : a2.den l ≤ b2.den l) (q3 : a3.den l ≤ b3.den l) : x.den l ≤ y.den l :=
  fkK h (show (k1 * a1.den l + k2 * a2.den l) + k3 * a3.den l ≤ (k1 * b1.den l + k2 * b2.den l) + k3 * b3.den l from Nat.add_le_add (Nat.add_le_add (Nat.mul_le_mul_left k1 q) (Nat.mul_le_mul_left k2 q2)) (Nat.mul_le_mul_left k3 q3))
theorem fkF {p : Prop} (h : 1 ≤ 0) : p := absurd h (by decide)
theorem sb1 (a b : Nat) : a - b ≤ a := Nat.sub_le a b
theorem sb2 (a b : Nat) : a ≤ (a - b) + b := by lia
theorem sb3 {a b : Nat} (h : b ≤ a) : (a - b) + b ≤ a := by lia
theorem dh1 (a : Nat) : 2 * (a / 2) ≤ a := by lia
theorem dh2 (a : Nat) : a ≤ 2 * (a / 2) + 1 := by lia
end Mine
end
section
open PySem PySem.W PySem.Calls PyProof.Rows
set_option Elab.async false
set_option maxRecDepth 100000
set_option maxHeartbeats 8000000
namespace Mine
noncomputable abbrev PR : Program := PySem.Challenge.rw_oc0074_01.row.prog
/-- a def's body and names -/
noncomputable def dfOf : Stmt → List Stmt × Scope
  | .FunctionDef _ _ body _ _ _ sc _ _ _ => (body, sc)
  | _ => ([], { kind := .function, names := [], isGenerator := false, isCoroutine := false })
/-- the body of the program's i-th statement -/
noncomputable def fb (i : Nat) : List Stmt := (dfOf (PR.main.body.getD i (.Pass ⟨0, 0, 0, 0⟩))).1
end Mine
end
section
open PySem PySem.W PySem.Calls PyProof.Rows
set_option Elab.async false
set_option maxRecDepth 100000
set_option maxHeartbeats 8000000
namespace Mine
set_option linter.unusedVariables false
noncomputable def kO2 (P : Params) : Obj := Obj.mk Value.none Option.none (Data.dict #[]) #[]
noncomputable def kE0 (P : Params) : List DictEntry := [DictEntry.mk (PyData.keyHash P (Str.ofString "__name__")) (Value.str (Str.ofString "__name__") 165) (Value.str (Str.ofString "law_oc0074_01") 313), DictEntry.mk (PyData.keyHash P (Str.ofString "__doc__")) (Value.str (Str.ofString "__doc__") 166) Value.none, DictEntry.mk (PyData.keyHash P (Str.ofString "__package__")) (Value.str (Str.ofString "__package__") 167) Value.none, DictEntry.mk (PyData.keyHash P (Str.ofString "__loader__")) (Value.str (Str.ofString "__loader__") 168) (Value.builtin "__main__.__loader__#opaque"), DictEntry.mk (PyData.keyHash P (Str.ofString "__spec__")) (Value.str (Str.ofString "__spec__") 169) Value.none, DictEntry.mk (PyData.keyHash P (Str.ofString "__annotations__")) (Value.str (Str.ofString "__annotations__") 170) (Value.ref 6)]
noncomputable def kE1 (P : Params) : List DictEntry := [DictEntry.mk (PyData.keyHash P (Str.ofString "__builtins__")) (Value.str (Str.ofString "__builtins__") 171) (Value.ref 4), DictEntry.mk (PyData.keyHash P (Str.ofString "__file__")) (Value.str (Str.ofString "__file__") 173) (Value.str (Str.ofString "/claim/cut.py") 172), DictEntry.mk (PyData.keyHash P (Str.ofString "__cached__")) (Value.str (Str.ofString "__cached__") 174) Value.none, DictEntry.mk (PyData.keyHash P (Str.ofString "three_way_cmp")) (Value.str (Str.ofString "three_way_cmp") 196) (Value.ref 21), DictEntry.mk (PyData.keyHash P (Str.ofString "cmp_to_key")) (Value.str (Str.ofString "cmp_to_key") 207) (Value.ref 28), DictEntry.mk (PyData.keyHash P (Str.ofString "_initial_missing")) (Value.str (Str.ofString "_initial_missing") 208) (Value.ref 29)]
noncomputable def kE2 (P : Params) : List DictEntry := [DictEntry.mk (PyData.keyHash P (Str.ofString "reduce")) (Value.str (Str.ofString "reduce") 220) (Value.ref 37), DictEntry.mk (PyData.keyHash P (Str.ofString "S_IMODE")) (Value.str (Str.ofString "S_IMODE") 229) (Value.ref 44), DictEntry.mk (PyData.keyHash P (Str.ofString "S_IFMT")) (Value.str (Str.ofString "S_IFMT") 236) (Value.ref 51), DictEntry.mk (PyData.keyHash P (Str.ofString "S_IFDIR")) (Value.str (Str.ofString "S_IFDIR") 238) (Value.int 16384 237), DictEntry.mk (PyData.keyHash P (Str.ofString "S_IFCHR")) (Value.str (Str.ofString "S_IFCHR") 240) (Value.int 8192 239), DictEntry.mk (PyData.keyHash P (Str.ofString "S_IFBLK")) (Value.str (Str.ofString "S_IFBLK") 242) (Value.int 24576 241)]
noncomputable def kE3 (P : Params) : List DictEntry := [DictEntry.mk (PyData.keyHash P (Str.ofString "S_IFREG")) (Value.str (Str.ofString "S_IFREG") 244) (Value.int 32768 243), DictEntry.mk (PyData.keyHash P (Str.ofString "S_IFIFO")) (Value.str (Str.ofString "S_IFIFO") 246) (Value.int 4096 245), DictEntry.mk (PyData.keyHash P (Str.ofString "S_IFLNK")) (Value.str (Str.ofString "S_IFLNK") 248) (Value.int 40960 247), DictEntry.mk (PyData.keyHash P (Str.ofString "S_IFSOCK")) (Value.str (Str.ofString "S_IFSOCK") 250) (Value.int 49152 249), DictEntry.mk (PyData.keyHash P (Str.ofString "S_ISUID")) (Value.str (Str.ofString "S_ISUID") 252) (Value.int 2048 251), DictEntry.mk (PyData.keyHash P (Str.ofString "S_ISGID")) (Value.str (Str.ofString "S_ISGID") 254) (Value.int 1024 253)]
noncomputable def kE4 (P : Params) : List DictEntry := [DictEntry.mk (PyData.keyHash P (Str.ofString "S_ISVTX")) (Value.str (Str.ofString "S_ISVTX") 256) (Value.int 512 255), DictEntry.mk (PyData.keyHash P (Str.ofString "S_IRUSR")) (Value.str (Str.ofString "S_IRUSR") 258) (Value.int 256 257), DictEntry.mk (PyData.keyHash P (Str.ofString "S_IWUSR")) (Value.str (Str.ofString "S_IWUSR") 260) (Value.int 128 259), DictEntry.mk (PyData.keyHash P (Str.ofString "S_IXUSR")) (Value.str (Str.ofString "S_IXUSR") 262) (Value.int 64 261), DictEntry.mk (PyData.keyHash P (Str.ofString "S_IRGRP")) (Value.str (Str.ofString "S_IRGRP") 264) (Value.int 32 263), DictEntry.mk (PyData.keyHash P (Str.ofString "S_IWGRP")) (Value.str (Str.ofString "S_IWGRP") 266) (Value.int 16 265)]
noncomputable def kE5 (P : Params) : List DictEntry := [DictEntry.mk (PyData.keyHash P (Str.ofString "S_IXGRP")) (Value.str (Str.ofString "S_IXGRP") 268) (Value.int 8 267), DictEntry.mk (PyData.keyHash P (Str.ofString "S_IROTH")) (Value.str (Str.ofString "S_IROTH") 270) (Value.int 4 269), DictEntry.mk (PyData.keyHash P (Str.ofString "S_IWOTH")) (Value.str (Str.ofString "S_IWOTH") 272) (Value.int 2 271), DictEntry.mk (PyData.keyHash P (Str.ofString "S_IXOTH")) (Value.str (Str.ofString "S_IXOTH") 274) (Value.int 1 273), DictEntry.mk (PyData.keyHash P (Str.ofString "_filemode_table")) (Value.str (Str.ofString "_filemode_table") 300) (Value.ref 84), DictEntry.mk (PyData.keyHash P (Str.ofString "filemode")) (Value.str (Str.ofString "filemode") 312) (Value.ref 91)]
noncomputable def kE6 (P : Params) : List DictEntry := [DictEntry.mk (PyData.keyHash P (Str.ofString "_law_things")) (Value.str (Str.ofString "_law_things") 324) (Value.ref 98), DictEntry.mk (PyData.keyHash P (Str.ofString "_law_turn")) (Value.str (Str.ofString "_law_turn") 330) (Value.ref 103), DictEntry.mk (PyData.keyHash P (Str.ofString "_law_signs")) (Value.str (Str.ofString "_law_signs") 342) (Value.ref 110), DictEntry.mk (PyData.keyHash P (Str.ofString "_law_own")) (Value.str (Str.ofString "_law_own") 352) (Value.ref 117), DictEntry.mk (PyData.keyHash P (Str.ofString "_law_wishes")) (Value.str (Str.ofString "_law_wishes") 358) (Value.ref 122), DictEntry.mk (PyData.keyHash P (Str.ofString "law")) (Value.str (Str.ofString "law") 364) (Value.ref 127)]
noncomputable def kO3 (P : Params) : Obj := Obj.mk (Value.type "dict") Option.none (Data.dict (kE0 P ++ (kE1 P ++ (kE2 P ++ (kE3 P ++ (kE4 P ++ (kE5 P ++ (kE6 P))))))).toArray 42) #[]
noncomputable def kO6 (P : Params) : Obj := Obj.mk (Value.type "dict") Option.none (Data.dict #[]) #[]
noncomputable def kO15 (P : Params) : Obj := Obj.mk (Value.type "tuple") Option.none (Data.seq #[]) #[]
noncomputable def kO17 (P : Params) : Obj := Obj.mk (Value.type "tuple") Option.none (Data.seq #[Value.str (Str.ofString "x") 192, Value.str (Str.ofString "y") 193]) #[]
noncomputable def kO18 (P : Params) : Obj := Obj.mk (Value.type "tuple") Option.none (Data.seq #[]) #[]
noncomputable def kO20 (P : Params) : Obj := Obj.mk (Value.type "code") Option.none (Data.fields #[Value.str (Str.ofString "three_way_cmp") 189, Value.str (Str.ofString "three_way_cmp") 190, Value.str (Str.ofString "/claim/cut.py") 191, Value.int 2 0, Value.int 2 0, Value.int 0 0, Value.int 0 0, Value.int 3 0, Value.ref 15, Value.bool Bool.true, Value.int 181 0, Value.ref 16, Value.none, Value.ref 17, Value.ref 18, Value.ref 19, Value.int 194 0, Value.int 2 0, Value.str (Str.ofString "/claim/cut.py") 195]) #[]
noncomputable def kO21 (P : Params) : Obj := Obj.mk (Value.type "function") Option.none (Data.func (FuncData.mk (Str.ofString "three_way_cmp") (Str.ofString "three_way_cmp") (Arguments.mk [] [Arg.mk (Str.ofString "x") Option.none (Pos.mk 2 18 2 19), Arg.mk (Str.ofString "y") Option.none (Pos.mk 2 21 2 22)] Option.none [] [] Option.none []) (FuncBody.stmts (fb 1)) (Scope.mk ScopeKind.function [(Str.ofString "x", NameKind.local), (Str.ofString "y", NameKind.local)] Bool.false Bool.false []) 3 [] Value.none Value.none Value.none (Value.str (Str.ofString "cpy313.unittest.util") 187) Option.none (Value.ref 20) Value.none 0)) #[]
noncomputable def kO22 (P : Params) : Obj := Obj.mk (Value.type "tuple") Option.none (Data.seq #[]) #[]
noncomputable def kO24 (P : Params) : Obj := Obj.mk (Value.type "tuple") Option.none (Data.seq #[Value.str (Str.ofString "mycmp") 202, Value.str (Str.ofString "K") 203]) #[]
noncomputable def kO25 (P : Params) : Obj := Obj.mk (Value.type "tuple") Option.none (Data.seq #[Value.str (Str.ofString "mycmp") 204]) #[]
noncomputable def kO27 (P : Params) : Obj := Obj.mk (Value.type "code") Option.none (Data.fields #[Value.str (Str.ofString "cmp_to_key") 199, Value.str (Str.ofString "cmp_to_key") 200, Value.str (Str.ofString "/claim/cut.py") 201, Value.int 5 0, Value.int 1 0, Value.int 0 0, Value.int 0 0, Value.int 3 0, Value.ref 22, Value.bool Bool.true, Value.int 181 0, Value.ref 23, Value.none, Value.ref 24, Value.ref 25, Value.ref 26, Value.int 205 0, Value.int 5 0, Value.str (Str.ofString "/claim/cut.py") 206]) #[]
noncomputable def kO28 (P : Params) : Obj := Obj.mk (Value.type "function") Option.none (Data.func (FuncData.mk (Str.ofString "cmp_to_key") (Str.ofString "cmp_to_key") (Arguments.mk [] [Arg.mk (Str.ofString "mycmp") Option.none (Pos.mk 5 15 5 20)] Option.none [] [] Option.none []) (FuncBody.stmts (fb 3)) (Scope.mk ScopeKind.function [(Str.ofString "mycmp", NameKind.cell), (Str.ofString "K", NameKind.local), (Str.ofString "object", NameKind.globalImplicit)] Bool.false Bool.false []) 3 [] Value.none Value.none Value.none (Value.str (Str.ofString "cpy313.functools") 197) Option.none (Value.ref 27) Value.none 0)) #[]
noncomputable def kO29 (P : Params) : Obj := Obj.mk (Value.type "object") Option.none Data.plain #[]
noncomputable def kO30 (P : Params) : Obj := Obj.mk (Value.type "tuple") Option.none (Data.seq #[Value.ref 29]) #[]
noncomputable def kO31 (P : Params) : Obj := Obj.mk (Value.type "tuple") Option.none (Data.seq #[]) #[]
noncomputable def kO33 (P : Params) : Obj := Obj.mk (Value.type "tuple") Option.none (Data.seq #[Value.str (Str.ofString "function") 212, Value.str (Str.ofString "sequence") 213, Value.str (Str.ofString "initial") 214, Value.str (Str.ofString "it") 215, Value.str (Str.ofString "value") 216, Value.str (Str.ofString "element") 217]) #[]
noncomputable def kO34 (P : Params) : Obj := Obj.mk (Value.type "tuple") Option.none (Data.seq #[]) #[]
noncomputable def kO36 (P : Params) : Obj := Obj.mk (Value.type "code") Option.none (Data.fields #[Value.str (Str.ofString "reduce") 209, Value.str (Str.ofString "reduce") 210, Value.str (Str.ofString "/claim/cut.py") 211, Value.int 31 0, Value.int 3 0, Value.int 0 0, Value.int 0 0, Value.int 3 0, Value.ref 31, Value.bool Bool.true, Value.int 181 0, Value.ref 32, Value.none, Value.ref 33, Value.ref 34, Value.ref 35, Value.int 218 0, Value.int 31 0, Value.str (Str.ofString "/claim/cut.py") 219]) #[]
noncomputable def kO37 (P : Params) : Obj := Obj.mk (Value.type "function") Option.none (Data.func (FuncData.mk (Str.ofString "reduce") (Str.ofString "reduce") (Arguments.mk [] [Arg.mk (Str.ofString "function") Option.none (Pos.mk 31 11 31 19), Arg.mk (Str.ofString "sequence") Option.none (Pos.mk 31 21 31 29), Arg.mk (Str.ofString "initial") Option.none (Pos.mk 31 31 31 38)] Option.none [] [] Option.none [Expr.Name (Str.ofString "_initial_missing") (Pos.mk 31 39 31 55)]) (FuncBody.stmts (fb 5)) (Scope.mk ScopeKind.function [(Str.ofString "function", NameKind.local), (Str.ofString "sequence", NameKind.local), (Str.ofString "initial", NameKind.local), (Str.ofString "it", NameKind.local), (Str.ofString "value", NameKind.local), (Str.ofString "element", NameKind.local), (Str.ofString "iter", NameKind.globalImplicit), (Str.ofString "_initial_missing", NameKind.globalImplicit), (Str.ofString "next", NameKind.globalImplicit), (Str.ofString "StopIteration", NameKind.globalImplicit), (Str.ofString "TypeError", NameKind.globalImplicit)] Bool.false Bool.false []) 3 [] (Value.ref 30) Value.none Value.none (Value.str (Str.ofString "cpy313.functools") 197) Option.none (Value.ref 36) Value.none 0)) #[]
noncomputable def kO38 (P : Params) : Obj := Obj.mk (Value.type "tuple") Option.none (Data.seq #[]) #[]
noncomputable def kO40 (P : Params) : Obj := Obj.mk (Value.type "tuple") Option.none (Data.seq #[Value.str (Str.ofString "mode") 226]) #[]
noncomputable def kO41 (P : Params) : Obj := Obj.mk (Value.type "tuple") Option.none (Data.seq #[]) #[]
noncomputable def kO43 (P : Params) : Obj := Obj.mk (Value.type "code") Option.none (Data.fields #[Value.str (Str.ofString "S_IMODE") 223, Value.str (Str.ofString "S_IMODE") 224, Value.str (Str.ofString "/claim/cut.py") 225, Value.int 44 0, Value.int 1 0, Value.int 0 0, Value.int 0 0, Value.int 3 0, Value.ref 38, Value.bool Bool.true, Value.int 181 0, Value.ref 39, Value.none, Value.ref 40, Value.ref 41, Value.ref 42, Value.int 227 0, Value.int 44 0, Value.str (Str.ofString "/claim/cut.py") 228]) #[]
noncomputable def kO44 (P : Params) : Obj := Obj.mk (Value.type "function") Option.none (Data.func (FuncData.mk (Str.ofString "S_IMODE") (Str.ofString "S_IMODE") (Arguments.mk [] [Arg.mk (Str.ofString "mode") Option.none (Pos.mk 44 12 44 16)] Option.none [] [] Option.none []) (FuncBody.stmts (fb 7)) (Scope.mk ScopeKind.function [(Str.ofString "mode", NameKind.local)] Bool.false Bool.false []) 3 [] Value.none Value.none Value.none (Value.str (Str.ofString "cpy313.stat") 221) Option.none (Value.ref 43) Value.none 0)) #[]
noncomputable def kO45 (P : Params) : Obj := Obj.mk (Value.type "tuple") Option.none (Data.seq #[]) #[]
noncomputable def kO47 (P : Params) : Obj := Obj.mk (Value.type "tuple") Option.none (Data.seq #[Value.str (Str.ofString "mode") 233]) #[]
noncomputable def kO48 (P : Params) : Obj := Obj.mk (Value.type "tuple") Option.none (Data.seq #[]) #[]
noncomputable def kO50 (P : Params) : Obj := Obj.mk (Value.type "code") Option.none (Data.fields #[Value.str (Str.ofString "S_IFMT") 230, Value.str (Str.ofString "S_IFMT") 231, Value.str (Str.ofString "/claim/cut.py") 232, Value.int 46 0, Value.int 1 0, Value.int 0 0, Value.int 0 0, Value.int 3 0, Value.ref 45, Value.bool Bool.true, Value.int 181 0, Value.ref 46, Value.none, Value.ref 47, Value.ref 48, Value.ref 49, Value.int 234 0, Value.int 46 0, Value.str (Str.ofString "/claim/cut.py") 235]) #[]
noncomputable def kO51 (P : Params) : Obj := Obj.mk (Value.type "function") Option.none (Data.func (FuncData.mk (Str.ofString "S_IFMT") (Str.ofString "S_IFMT") (Arguments.mk [] [Arg.mk (Str.ofString "mode") Option.none (Pos.mk 46 11 46 15)] Option.none [] [] Option.none []) (FuncBody.stmts (fb 8)) (Scope.mk ScopeKind.function [(Str.ofString "mode", NameKind.local)] Bool.false Bool.false []) 3 [] Value.none Value.none Value.none (Value.str (Str.ofString "cpy313.stat") 221) Option.none (Value.ref 50) Value.none 0)) #[]
noncomputable def kO52 (P : Params) : Obj := Obj.mk (Value.type "tuple") Option.none (Data.seq #[Value.int 40960 247, Value.str (Str.ofString "l") 275]) #[]
noncomputable def kO53 (P : Params) : Obj := Obj.mk (Value.type "tuple") Option.none (Data.seq #[Value.int 49152 249, Value.str (Str.ofString "s") 276]) #[]
noncomputable def kO54 (P : Params) : Obj := Obj.mk (Value.type "tuple") Option.none (Data.seq #[Value.int 32768 243, Value.str (Str.ofString "-") 277]) #[]
noncomputable def kO55 (P : Params) : Obj := Obj.mk (Value.type "tuple") Option.none (Data.seq #[Value.int 24576 241, Value.str (Str.ofString "b") 278]) #[]
noncomputable def kO56 (P : Params) : Obj := Obj.mk (Value.type "tuple") Option.none (Data.seq #[Value.int 16384 237, Value.str (Str.ofString "d") 279]) #[]
noncomputable def kO57 (P : Params) : Obj := Obj.mk (Value.type "tuple") Option.none (Data.seq #[Value.int 8192 239, Value.str (Str.ofString "c") 280]) #[]
noncomputable def kO58 (P : Params) : Obj := Obj.mk (Value.type "tuple") Option.none (Data.seq #[Value.int 4096 245, Value.str (Str.ofString "p") 281]) #[]
noncomputable def kO59 (P : Params) : Obj := Obj.mk (Value.type "tuple") Option.none (Data.seq #[Value.ref 52, Value.ref 53, Value.ref 54, Value.ref 55, Value.ref 56, Value.ref 57, Value.ref 58]) #[]
noncomputable def kO60 (P : Params) : Obj := Obj.mk (Value.type "tuple") Option.none (Data.seq #[Value.int 256 257, Value.str (Str.ofString "r") 282]) #[]
noncomputable def kO61 (P : Params) : Obj := Obj.mk (Value.type "tuple") Option.none (Data.seq #[Value.ref 60]) #[]
noncomputable def kO62 (P : Params) : Obj := Obj.mk (Value.type "tuple") Option.none (Data.seq #[Value.int 128 259, Value.str (Str.ofString "w") 283]) #[]
noncomputable def kO63 (P : Params) : Obj := Obj.mk (Value.type "tuple") Option.none (Data.seq #[Value.ref 62]) #[]
noncomputable def kO64 (P : Params) : Obj := Obj.mk (Value.type "tuple") Option.none (Data.seq #[Value.int 2112 284, Value.str (Str.ofString "s") 285]) #[]
noncomputable def kO65 (P : Params) : Obj := Obj.mk (Value.type "tuple") Option.none (Data.seq #[Value.int 2048 251, Value.str (Str.ofString "S") 286]) #[]
noncomputable def kO66 (P : Params) : Obj := Obj.mk (Value.type "tuple") Option.none (Data.seq #[Value.int 64 261, Value.str (Str.ofString "x") 287]) #[]
noncomputable def kO67 (P : Params) : Obj := Obj.mk (Value.type "tuple") Option.none (Data.seq #[Value.ref 64, Value.ref 65, Value.ref 66]) #[]
noncomputable def kO68 (P : Params) : Obj := Obj.mk (Value.type "tuple") Option.none (Data.seq #[Value.int 32 263, Value.str (Str.ofString "r") 288]) #[]
noncomputable def kO69 (P : Params) : Obj := Obj.mk (Value.type "tuple") Option.none (Data.seq #[Value.ref 68]) #[]
noncomputable def kO70 (P : Params) : Obj := Obj.mk (Value.type "tuple") Option.none (Data.seq #[Value.int 16 265, Value.str (Str.ofString "w") 289]) #[]
noncomputable def kO71 (P : Params) : Obj := Obj.mk (Value.type "tuple") Option.none (Data.seq #[Value.ref 70]) #[]
noncomputable def kO72 (P : Params) : Obj := Obj.mk (Value.type "tuple") Option.none (Data.seq #[Value.int 1032 290, Value.str (Str.ofString "s") 291]) #[]
noncomputable def kO73 (P : Params) : Obj := Obj.mk (Value.type "tuple") Option.none (Data.seq #[Value.int 1024 253, Value.str (Str.ofString "S") 292]) #[]
noncomputable def kO74 (P : Params) : Obj := Obj.mk (Value.type "tuple") Option.none (Data.seq #[Value.int 8 267, Value.str (Str.ofString "x") 293]) #[]
noncomputable def kO75 (P : Params) : Obj := Obj.mk (Value.type "tuple") Option.none (Data.seq #[Value.ref 72, Value.ref 73, Value.ref 74]) #[]
noncomputable def kO76 (P : Params) : Obj := Obj.mk (Value.type "tuple") Option.none (Data.seq #[Value.int 4 269, Value.str (Str.ofString "r") 294]) #[]
noncomputable def kO77 (P : Params) : Obj := Obj.mk (Value.type "tuple") Option.none (Data.seq #[Value.ref 76]) #[]
noncomputable def kO78 (P : Params) : Obj := Obj.mk (Value.type "tuple") Option.none (Data.seq #[Value.int 2 271, Value.str (Str.ofString "w") 295]) #[]
noncomputable def kO79 (P : Params) : Obj := Obj.mk (Value.type "tuple") Option.none (Data.seq #[Value.ref 78]) #[]
noncomputable def kO80 (P : Params) : Obj := Obj.mk (Value.type "tuple") Option.none (Data.seq #[Value.int 513 296, Value.str (Str.ofString "t") 297]) #[]
noncomputable def kO81 (P : Params) : Obj := Obj.mk (Value.type "tuple") Option.none (Data.seq #[Value.int 512 255, Value.str (Str.ofString "T") 298]) #[]
noncomputable def kO82 (P : Params) : Obj := Obj.mk (Value.type "tuple") Option.none (Data.seq #[Value.int 1 273, Value.str (Str.ofString "x") 299]) #[]
noncomputable def kO83 (P : Params) : Obj := Obj.mk (Value.type "tuple") Option.none (Data.seq #[Value.ref 80, Value.ref 81, Value.ref 82]) #[]
noncomputable def kO84 (P : Params) : Obj := Obj.mk (Value.type "tuple") Option.none (Data.seq #[Value.ref 59, Value.ref 61, Value.ref 63, Value.ref 67, Value.ref 69, Value.ref 71, Value.ref 75, Value.ref 77, Value.ref 79, Value.ref 83]) #[]
noncomputable def kO85 (P : Params) : Obj := Obj.mk (Value.type "tuple") Option.none (Data.seq #[]) #[]
noncomputable def kO87 (P : Params) : Obj := Obj.mk (Value.type "tuple") Option.none (Data.seq #[Value.str (Str.ofString "mode") 304, Value.str (Str.ofString "perm") 305, Value.str (Str.ofString "index") 306, Value.str (Str.ofString "table") 307, Value.str (Str.ofString "bit") 308, Value.str (Str.ofString "char") 309]) #[]
noncomputable def kO88 (P : Params) : Obj := Obj.mk (Value.type "tuple") Option.none (Data.seq #[]) #[]
noncomputable def kO90 (P : Params) : Obj := Obj.mk (Value.type "code") Option.none (Data.fields #[Value.str (Str.ofString "filemode") 301, Value.str (Str.ofString "filemode") 302, Value.str (Str.ofString "/claim/cut.py") 303, Value.int 68 0, Value.int 1 0, Value.int 0 0, Value.int 0 0, Value.int 3 0, Value.ref 85, Value.bool Bool.true, Value.int 181 0, Value.ref 86, Value.none, Value.ref 87, Value.ref 88, Value.ref 89, Value.int 310 0, Value.int 68 0, Value.str (Str.ofString "/claim/cut.py") 311]) #[]
noncomputable def kO91 (P : Params) : Obj := Obj.mk (Value.type "function") Option.none (Data.func (FuncData.mk (Str.ofString "filemode") (Str.ofString "filemode") (Arguments.mk [] [Arg.mk (Str.ofString "mode") Option.none (Pos.mk 68 13 68 17)] Option.none [] [] Option.none []) (FuncBody.stmts (fb 29)) (Scope.mk ScopeKind.function [(Str.ofString "mode", NameKind.local), (Str.ofString "perm", NameKind.local), (Str.ofString "index", NameKind.local), (Str.ofString "table", NameKind.local), (Str.ofString "bit", NameKind.local), (Str.ofString "char", NameKind.local), (Str.ofString "enumerate", NameKind.globalImplicit), (Str.ofString "_filemode_table", NameKind.globalImplicit), (Str.ofString "S_IFMT", NameKind.globalImplicit)] Bool.false Bool.false []) 3 [] Value.none Value.none Value.none (Value.str (Str.ofString "cpy313.stat") 221) Option.none (Value.ref 90) Value.none 0)) #[]
noncomputable def kO92 (P : Params) : Obj := Obj.mk (Value.type "tuple") Option.none (Data.seq #[]) #[]
noncomputable def kO94 (P : Params) : Obj := Obj.mk (Value.type "tuple") Option.none (Data.seq #[Value.str (Str.ofString "file") 318, Value.str (Str.ofString "mode") 319, Value.str (Str.ofString "size") 320, Value.str (Str.ofString "place") 321]) #[]
noncomputable def kO95 (P : Params) : Obj := Obj.mk (Value.type "tuple") Option.none (Data.seq #[]) #[]
noncomputable def kO97 (P : Params) : Obj := Obj.mk (Value.type "code") Option.none (Data.fields #[Value.str (Str.ofString "_law_things") 315, Value.str (Str.ofString "_law_things") 316, Value.str (Str.ofString "/claim/cut.py") 317, Value.int 86 0, Value.int 1 0, Value.int 0 0, Value.int 0 0, Value.int 3 0, Value.ref 92, Value.bool Bool.true, Value.int 181 0, Value.ref 93, Value.none, Value.ref 94, Value.ref 95, Value.ref 96, Value.int 322 0, Value.int 86 0, Value.str (Str.ofString "/claim/cut.py") 323]) #[]
noncomputable def kO98 (P : Params) : Obj := Obj.mk (Value.type "function") Option.none (Data.func (FuncData.mk (Str.ofString "_law_things") (Str.ofString "_law_things") (Arguments.mk [] [Arg.mk (Str.ofString "file") Option.none (Pos.mk 86 16 86 20)] Option.none [] [] Option.none []) (FuncBody.stmts (fb 31)) (Scope.mk ScopeKind.function [(Str.ofString "file", NameKind.local), (Str.ofString "mode", NameKind.local), (Str.ofString "size", NameKind.local), (Str.ofString "place", NameKind.local), (Str.ofString "S_IFMT", NameKind.globalImplicit), (Str.ofString "S_IMODE", NameKind.globalImplicit), (Str.ofString "filemode", NameKind.globalImplicit)] Bool.false Bool.false []) 3 [] Value.none Value.none Value.none (Value.str (Str.ofString "law_oc0074_01") 313) Option.none (Value.ref 97) Value.none 0)) #[]
noncomputable def kO99 (P : Params) : Obj := Obj.mk (Value.type "tuple") Option.none (Data.seq #[]) #[]
noncomputable def kO102 (P : Params) : Obj := Obj.mk (Value.type "code") Option.none (Data.fields #[Value.str (Str.ofString "_law_turn") 325, Value.str (Str.ofString "_law_turn") 326, Value.str (Str.ofString "/claim/cut.py") 327, Value.int 89 0, Value.int 3 0, Value.int 0 0, Value.int 0 0, Value.int 3 0, Value.ref 99, Value.bool Bool.true, Value.int 181 0, Value.ref 100, Value.none, Value.none, Value.none, Value.ref 101, Value.int 328 0, Value.int 89 0, Value.str (Str.ofString "/claim/cut.py") 329]) #[]
noncomputable def kO103 (P : Params) : Obj := Obj.mk (Value.type "function") Option.none (Data.func (FuncData.mk (Str.ofString "_law_turn") (Str.ofString "_law_turn") (Arguments.mk [] [Arg.mk (Str.ofString "one") Option.none (Pos.mk 89 14 89 17), Arg.mk (Str.ofString "two") Option.none (Pos.mk 89 19 89 22), Arg.mk (Str.ofString "wishes") Option.none (Pos.mk 89 24 89 30)] Option.none [] [] Option.none []) (FuncBody.stmts (fb 32)) (Scope.mk ScopeKind.function [(Str.ofString "one", NameKind.cell), (Str.ofString "two", NameKind.cell), (Str.ofString "wishes", NameKind.local), (Str.ofString "asked", NameKind.local), (Str.ofString "reduce", NameKind.globalImplicit)] Bool.false Bool.false [(Str.ofString "fast", Const.str (Str.ofString "one")), (Str.ofString "fast", Const.str (Str.ofString "two")), (Str.ofString "fast", Const.str (Str.ofString "wishes")), (Str.ofString "fast", Const.str (Str.ofString "wish")), (Str.ofString "fast", Const.str (Str.ofString "back")), (Str.ofString "fast", Const.str (Str.ofString "asked"))]) 3 [] Value.none Value.none Value.none (Value.str (Str.ofString "law_oc0074_01") 313) Option.none (Value.ref 102) Value.none 0)) #[]
noncomputable def kO104 (P : Params) : Obj := Obj.mk (Value.type "tuple") Option.none (Data.seq #[]) #[]
noncomputable def kO106 (P : Params) : Obj := Obj.mk (Value.type "tuple") Option.none (Data.seq #[Value.str (Str.ofString "mode") 334, Value.str (Str.ofString "text") 335, Value.str (Str.ofString "k") 336, Value.str (Str.ofString "more") 337, Value.str (Str.ofString "three") 338, Value.str (Str.ofString "last") 339]) #[]
noncomputable def kO107 (P : Params) : Obj := Obj.mk (Value.type "tuple") Option.none (Data.seq #[]) #[]
noncomputable def kO109 (P : Params) : Obj := Obj.mk (Value.type "code") Option.none (Data.fields #[Value.str (Str.ofString "_law_signs") 331, Value.str (Str.ofString "_law_signs") 332, Value.str (Str.ofString "/claim/cut.py") 333, Value.int 92 0, Value.int 1 0, Value.int 0 0, Value.int 0 0, Value.int 3 0, Value.ref 104, Value.bool Bool.true, Value.int 181 0, Value.ref 105, Value.none, Value.ref 106, Value.ref 107, Value.ref 108, Value.int 340 0, Value.int 92 0, Value.str (Str.ofString "/claim/cut.py") 341]) #[]
noncomputable def kO110 (P : Params) : Obj := Obj.mk (Value.type "function") Option.none (Data.func (FuncData.mk (Str.ofString "_law_signs") (Str.ofString "_law_signs") (Arguments.mk [] [Arg.mk (Str.ofString "mode") Option.none (Pos.mk 92 15 92 19)] Option.none [] [] Option.none []) (FuncBody.stmts (fb 33)) (Scope.mk ScopeKind.function [(Str.ofString "mode", NameKind.local), (Str.ofString "text", NameKind.local), (Str.ofString "k", NameKind.local), (Str.ofString "more", NameKind.local), (Str.ofString "three", NameKind.local), (Str.ofString "last", NameKind.local)] Bool.false Bool.false []) 3 [] Value.none Value.none Value.none (Value.str (Str.ofString "law_oc0074_01") 313) Option.none (Value.ref 109) Value.none 0)) #[]
noncomputable def kO111 (P : Params) : Obj := Obj.mk (Value.type "tuple") Option.none (Data.seq #[]) #[]
noncomputable def kO113 (P : Params) : Obj := Obj.mk (Value.type "tuple") Option.none (Data.seq #[Value.str (Str.ofString "file") 346, Value.str (Str.ofString "mode") 347, Value.str (Str.ofString "size") 348, Value.str (Str.ofString "place") 349]) #[]
noncomputable def kO114 (P : Params) : Obj := Obj.mk (Value.type "tuple") Option.none (Data.seq #[]) #[]
noncomputable def kO116 (P : Params) : Obj := Obj.mk (Value.type "code") Option.none (Data.fields #[Value.str (Str.ofString "_law_own") 343, Value.str (Str.ofString "_law_own") 344, Value.str (Str.ofString "/claim/cut.py") 345, Value.int 100 0, Value.int 1 0, Value.int 0 0, Value.int 0 0, Value.int 3 0, Value.ref 111, Value.bool Bool.true, Value.int 181 0, Value.ref 112, Value.none, Value.ref 113, Value.ref 114, Value.ref 115, Value.int 350 0, Value.int 100 0, Value.str (Str.ofString "/claim/cut.py") 351]) #[]
noncomputable def kO117 (P : Params) : Obj := Obj.mk (Value.type "function") Option.none (Data.func (FuncData.mk (Str.ofString "_law_own") (Str.ofString "_law_own") (Arguments.mk [] [Arg.mk (Str.ofString "file") Option.none (Pos.mk 100 13 100 17)] Option.none [] [] Option.none []) (FuncBody.stmts (fb 34)) (Scope.mk ScopeKind.function [(Str.ofString "file", NameKind.local), (Str.ofString "mode", NameKind.local), (Str.ofString "size", NameKind.local), (Str.ofString "place", NameKind.local), (Str.ofString "_law_signs", NameKind.globalImplicit)] Bool.false Bool.false []) 3 [] Value.none Value.none Value.none (Value.str (Str.ofString "law_oc0074_01") 313) Option.none (Value.ref 116) Value.none 0)) #[]
noncomputable def kO118 (P : Params) : Obj := Obj.mk (Value.type "tuple") Option.none (Data.seq #[]) #[]
noncomputable def kO121 (P : Params) : Obj := Obj.mk (Value.type "code") Option.none (Data.fields #[Value.str (Str.ofString "_law_wishes") 353, Value.str (Str.ofString "_law_wishes") 354, Value.str (Str.ofString "/claim/cut.py") 355, Value.int 103 0, Value.int 1 0, Value.int 0 0, Value.int 0 0, Value.int 3 0, Value.ref 118, Value.bool Bool.true, Value.int 181 0, Value.ref 119, Value.none, Value.none, Value.none, Value.ref 120, Value.int 356 0, Value.int 103 0, Value.str (Str.ofString "/claim/cut.py") 357]) #[]
noncomputable def kO122 (P : Params) : Obj := Obj.mk (Value.type "function") Option.none (Data.func (FuncData.mk (Str.ofString "_law_wishes") (Str.ofString "_law_wishes") (Arguments.mk [] [Arg.mk (Str.ofString "whole") Option.none (Pos.mk 103 16 103 21)] Option.none [] [] Option.none []) (FuncBody.stmts (fb 35)) (Scope.mk ScopeKind.function [(Str.ofString "whole", NameKind.cell), (Str.ofString "left", NameKind.local), (Str.ofString "wishes", NameKind.local), (Str.ofString "place", NameKind.local)] Bool.false Bool.false [(Str.ofString "fast", Const.str (Str.ofString "whole")), (Str.ofString "fast", Const.str (Str.ofString "left")), (Str.ofString "fast", Const.str (Str.ofString "wishes")), (Str.ofString "fast", Const.str (Str.ofString "place")), (Str.ofString "fast", Const.str (Str.ofString "wish"))]) 3 [] Value.none Value.none Value.none (Value.str (Str.ofString "law_oc0074_01") 313) Option.none (Value.ref 121) Value.none 0)) #[]
noncomputable def kO123 (P : Params) : Obj := Obj.mk (Value.type "tuple") Option.none (Data.seq #[]) #[]
noncomputable def kO126 (P : Params) : Obj := Obj.mk (Value.type "code") Option.none (Data.fields #[Value.str (Str.ofString "law") 359, Value.str (Str.ofString "law") 360, Value.str (Str.ofString "/claim/cut.py") 361, Value.int 108 0, Value.int 1 0, Value.int 0 0, Value.int 0 0, Value.int 3 0, Value.ref 123, Value.bool Bool.true, Value.int 181 0, Value.ref 124, Value.none, Value.none, Value.none, Value.ref 125, Value.int 362 0, Value.int 108 0, Value.str (Str.ofString "/claim/cut.py") 363]) #[]
noncomputable def kO127 (P : Params) : Obj := Obj.mk (Value.type "function") Option.none (Data.func (FuncData.mk (Str.ofString "law") (Str.ofString "law") (Arguments.mk [] [Arg.mk (Str.ofString "script") Option.none (Pos.mk 108 8 108 14)] Option.none [] [] Option.none []) (FuncBody.stmts (fb 36)) (Scope.mk ScopeKind.function [(Str.ofString "script", NameKind.local), (Str.ofString "numbers", NameKind.local), (Str.ofString "files", NameKind.local), (Str.ofString "told", NameKind.local), (Str.ofString "row", NameKind.local), (Str.ofString "turns", NameKind.local), (Str.ofString "one", NameKind.cell), (Str.ofString "two", NameKind.cell), (Str.ofString "due", NameKind.cell), (Str.ofString "signs", NameKind.local), (Str.ofString "back", NameKind.local), (Str.ofString "wish", NameKind.cell), (Str.ofString "last", NameKind.local), (Str.ofString "wishes", NameKind.cell), (Str.ofString "_law_wishes", NameKind.globalImplicit), (Str.ofString "sum", NameKind.globalImplicit), (Str.ofString "enumerate", NameKind.globalImplicit), (Str.ofString "cmp_to_key", NameKind.globalImplicit), (Str.ofString "zip", NameKind.globalImplicit), (Str.ofString "range", NameKind.globalImplicit), (Str.ofString "sorted", NameKind.globalImplicit), (Str.ofString "max", NameKind.globalImplicit)] Bool.false Bool.false [(Str.ofString "fast", Const.str (Str.ofString "script")), (Str.ofString "fast", Const.str (Str.ofString "numbers")), (Str.ofString "fast", Const.str (Str.ofString "place")), (Str.ofString "fast", Const.str (Str.ofString "x")), (Str.ofString "fast", Const.str (Str.ofString "files")), (Str.ofString "fast", Const.str (Str.ofString "file")), (Str.ofString "fast", Const.str (Str.ofString "told")), (Str.ofString "fast", Const.str (Str.ofString "row")), (Str.ofString "fast", Const.str (Str.ofString "turns")), (Str.ofString "fast", Const.str (Str.ofString "one")), (Str.ofString "fast", Const.str (Str.ofString "two")), (Str.ofString "fast", Const.str (Str.ofString "k")), (Str.ofString "fast", Const.str (Str.ofString "due")), (Str.ofString "fast", Const.str (Str.ofString "signs")), (Str.ofString "fast", Const.str (Str.ofString "back")), (Str.ofString "fast", Const.str (Str.ofString "thing")), (Str.ofString "fast", Const.str (Str.ofString "wish")), (Str.ofString "fast", Const.str (Str.ofString "last")), (Str.ofString "fast", Const.str (Str.ofString "wishes"))]) 3 [] Value.none Value.none Value.none (Value.str (Str.ofString "law_oc0074_01") 313) Option.none (Value.ref 126) Value.none 0)) #[]
noncomputable def kfr : Params → Frag := fun P => (nat_lit 2, kO2 P) :: (nat_lit 3, kO3 P) :: (nat_lit 6, kO6 P) :: (nat_lit 15, kO15 P) :: (nat_lit 17, kO17 P) :: (nat_lit 18, kO18 P) :: (nat_lit 20, kO20 P) :: (nat_lit 21, kO21 P) :: (nat_lit 22, kO22 P) :: (nat_lit 24, kO24 P) :: (nat_lit 25, kO25 P) :: (nat_lit 27, kO27 P) :: (nat_lit 28, kO28 P) :: (nat_lit 29, kO29 P) :: (nat_lit 30, kO30 P) :: (nat_lit 31, kO31 P) :: (nat_lit 33, kO33 P) :: (nat_lit 34, kO34 P) :: (nat_lit 36, kO36 P) :: (nat_lit 37, kO37 P) :: (nat_lit 38, kO38 P) :: (nat_lit 40, kO40 P) :: (nat_lit 41, kO41 P) :: (nat_lit 43, kO43 P) :: (nat_lit 44, kO44 P) :: (nat_lit 45, kO45 P) :: (nat_lit 47, kO47 P) :: (nat_lit 48, kO48 P) :: (nat_lit 50, kO50 P) :: (nat_lit 51, kO51 P) :: (nat_lit 52, kO52 P) :: (nat_lit 53, kO53 P) :: (nat_lit 54, kO54 P) :: (nat_lit 55, kO55 P) :: (nat_lit 56, kO56 P) :: (nat_lit 57, kO57 P) :: (nat_lit 58, kO58 P) :: (nat_lit 59, kO59 P) :: (nat_lit 60, kO60 P) :: (nat_lit 61, kO61 P) :: (nat_lit 62, kO62 P) :: (nat_lit 63, kO63 P) :: (nat_lit 64, kO64 P) :: (nat_lit 65, kO65 P) :: (nat_lit 66, kO66 P) :: (nat_lit 67, kO67 P) :: (nat_lit 68, kO68 P) :: (nat_lit 69, kO69 P) :: (nat_lit 70, kO70 P) :: (nat_lit 71, kO71 P) :: (nat_lit 72, kO72 P) :: (nat_lit 73, kO73 P) :: (nat_lit 74, kO74 P) :: (nat_lit 75, kO75 P) :: (nat_lit 76, kO76 P) :: (nat_lit 77, kO77 P) :: (nat_lit 78, kO78 P) :: (nat_lit 79, kO79 P) :: (nat_lit 80, kO80 P) :: (nat_lit 81, kO81 P) :: (nat_lit 82, kO82 P) :: (nat_lit 83, kO83 P) :: (nat_lit 84, kO84 P) :: (nat_lit 85, kO85 P) :: (nat_lit 87, kO87 P) :: (nat_lit 88, kO88 P) :: (nat_lit 90, kO90 P) :: (nat_lit 91, kO91 P) :: (nat_lit 92, kO92 P) :: (nat_lit 94, kO94 P) :: (nat_lit 95, kO95 P) :: (nat_lit 97, kO97 P) :: (nat_lit 98, kO98 P) :: (nat_lit 99, kO99 P) :: (nat_lit 102, kO102 P) :: (nat_lit 103, kO103 P) :: (nat_lit 104, kO104 P) :: (nat_lit 106, kO106 P) :: (nat_lit 107, kO107 P) :: (nat_lit 109, kO109 P) :: (nat_lit 110, kO110 P) :: (nat_lit 111, kO111 P) :: (nat_lit 113, kO113 P) :: (nat_lit 114, kO114 P) :: (nat_lit 116, kO116 P) :: (nat_lit 117, kO117 P) :: (nat_lit 118, kO118 P) :: (nat_lit 121, kO121 P) :: (nat_lit 122, kO122 P) :: (nat_lit 123, kO123 P) :: (nat_lit 126, kO126 P) :: (nat_lit 127, kO127 P) :: []
end Mine
end
section
open PySem PySem.W PySem.Calls PyProof.Rows
set_option Elab.async false
set_option maxRecDepth 100000
set_option maxHeartbeats 8000000
namespace Mine


/-- what stands, but for the one code table of `_law_turn` -/
noncomputable def Ext1 (h h' : Heap) : Prop := ∀ b o, b ≠ 100 → h.get? b = some o → h'.get? b = some o
theorem Ext1.refl (h : Heap) : Ext1 h h := fun _ _ _ e => e
theorem Ext1.trans {a b c : Heap} (x : Ext1 a b) (y : Ext1 b c) : Ext1 a c := fun p o n e => y p o n (x p o n e)
theorem Ext1.of {h h' : Heap} (x : ∀ b o, h.get? b = some o → h'.get? b = some o) : Ext1 h h' := fun b o _ e => x b o e

noncomputable abbrev gh (h : Heap) : Heap := hideAll h [100]
theorem gh_ne {h : Heap} {b : Addr} {o : Obj} (e : h.get? b = some o) (hb : b ≠ 100) : (gh h).get? b = some o := hideAll_get _ e (by simpa using hb)
theorem of_gh {h : Heap} {b : Addr} {o : Obj} (e : (gh h).get? b = some o) : h.get? b = some o := of_hideAll _ e
theorem gh_100 {h : Heap} : (gh h).get? 100 = none := hideAll_none _ (by simp)
theorem gh_neq {h : Heap} {b : Addr} {o : Obj} (e : (gh h).get? b = some o) : b ≠ 100 := fun q => by rw [q, gh_100] at e; cases e
theorem gh_size {h : Heap} : (gh h).objs.size = h.objs.size := hideAll_size _ _
theorem Ext1.gh {h h' : Heap} (x : Ext1 h h') : ∀ b o, (gh h).get? b = some o → (Mine.gh h').get? b = some o := fun b o e => gh_ne (x b o (gh_neq e) (of_gh e)) (gh_neq e)

noncomputable def lamQual : Str := Str.ofString "_law_turn.<locals>.<lambda>"

noncomputable def TabV (h : Heap) (ps : Array Value) : Prop := ps = #[] ∨ ∃ c', ps = #[rawInt 91, rawInt 18, .ref c'] ∧ (gh h).CodeRec (.ref c') lamQual
theorem TabV.ext {h h' : Heap} {ps : Array Value} (x : Ext1 h h') (v : TabV h ps) : TabV h' ps := by
  rcases v with v | ⟨c', v, c, oc, vs, t, e, ho, r⟩
  · exact .inl v
  · exact .inr ⟨c', v, c, oc, vs, t, e, x.gh _ _ ho, r⟩
noncomputable def Tab (h : Heap) : Prop := ∃ ps, h.get? 100 = some (tabObj ps) ∧ TabV h ps

/-- the standing part of the heap -/
structure Wd (w : World) (loose : List Str) (mean : ExcName → Option Value) (mg mb : Str → Option Value) (h : Heap) : Prop where
  X : (kfr w.params).In (gh h)
  T : Top topProg loose mean mg mb (gh h)
  tab : Tab h
theorem Wd.next {w : World} {loose : List Str} {mean : ExcName → Option Value} {mg mb : Str → Option Value} {h h' : Heap} (W : Wd w loose mean mg mb h) (x : Ext1 h h') (t : Tab h') : Wd w loose mean mg mb h' :=
  ⟨W.X.keeps x.gh, W.T.keeps x.gh, t⟩

noncomputable def Stp (s s' : Shared) : Prop := ∃ h' tk', s' = { s with heap := h', toks := tk' } ∧ Ext1 s.heap h' ∧ Tab h'
theorem Stp.trans {a b c : Shared} (x : Stp a b) (y : Stp b c) : Stp a c := by
  obtain ⟨h, tk, rfl, e, t⟩ := x
  obtain ⟨h', tk', rfl, e', t'⟩ := y
  exact ⟨h', tk', rfl, e.trans e', t'⟩
theorem Stp.ext {a b : Shared} (x : Stp a b) : Ext1 a.heap b.heap := by
  obtain ⟨h, tk, rfl, e, t⟩ := x
  exact e
theorem Stp.tab {a b : Shared} (x : Stp a b) : Tab b.heap := by
  obtain ⟨h, tk, rfl, e, t⟩ := x
  exact t
theorem Stp.wd {w : World} {loose : List Str} {mean : ExcName → Option Value} {mg mb : Str → Option Value} {a b : Shared} (x : Stp a b) (W : Wd w loose mean mg mb a.heap) : Wd w loose mean mg mb b.heap := W.next x.ext x.tab

/-- room in the stacks -/
noncomputable def Rm (A : Around) (n : Nat) : Prop := A.handled = none ∧ A.depth + n < 900 ∧ A.units + 8 * n < 9000
theorem Rm.le {A : Around} {n k : Nat} (r : Rm A n) (h : k ≤ n) : Rm A k := ⟨r.1, by have := r.2.1; exact fk2 1 1 1 (.a (.a (.v 0) (.v 1)) (.n 1)) (.n 900) (.v 1) (.v 2) (.a (.a (.v 0) (.v 2)) (.n 1)) (.n 900) rfl [_, _, _] h this, by have := r.2.2; exact fk2 1 8 1 (.a (.a (.v 0) (.m 8 (.v 1))) (.n 1)) (.n 9000) (.v 1) (.v 2) (.a (.a (.v 0) (.m 8 (.v 2))) (.n 1)) (.n 9000) rfl [_, _, _] h this⟩
theorem Rm.deeper {A : Around} {n : Nat} (r : Rm A (n + 1)) (env : Env) : Rm (A.deeper env) n := ⟨r.1, by have := r.2.1; show A.depth + 1 + n < 900; exact fk1 1 1 (.a (.a (.a (.v 0) (.n 1)) (.v 1)) (.n 1)) (.n 900) (.a (.a (.v 0) (.a (.v 1) (.n 1))) (.n 1)) (.n 900) rfl [_, _] this, by have := r.2.2; show A.units + 3 + 8 * n < 9000; exact fk1 1 1 (.a (.a (.a (.v 0) (.n 3)) (.m 8 (.v 1))) (.n 1)) (.n 9000) (.a (.a (.v 0) (.m 8 (.a (.v 1) (.n 1)))) (.n 1)) (.n 9000) rfl [_, _] this⟩
theorem Rm.in1 {A : Around} {n : Nat} (r : Rm A (n + 1)) : Rm A.in1 n := ⟨r.1, by have := r.2.1; show A.depth + n < 900; exact fk1 1 1 (.a (.a (.v 0) (.v 1)) (.n 1)) (.n 900) (.a (.a (.v 0) (.a (.v 1) (.n 1))) (.n 1)) (.n 900) rfl [_, _] this, by have := r.2.2; show A.units + 1 + 8 * n < 9000; exact fk1 1 1 (.a (.a (.a (.v 0) (.n 1)) (.m 8 (.v 1))) (.n 1)) (.n 9000) (.a (.a (.v 0) (.m 8 (.a (.v 1) (.n 1)))) (.n 1)) (.n 9000) rfl [_, _] this⟩
theorem Rm.depth {A : Around} {n : Nat} (r : Rm A n) : A.depth < recursionLimit := by have := r.2.1; show A.depth < 1000; exact fk1 1 1 (.a (.v 0) (.n 1)) (.n 1000) (.a (.a (.v 0) (.v 1)) (.n 1)) (.n 900) rfl [_, _] this
theorem Rm.units {A : Around} {n : Nat} (r : Rm A n) : A.units + 100 < cLine := by have := r.2.2; show A.units + 100 < 9900; exact fk1 1 1 (.a (.a (.v 0) (.n 100)) (.n 1)) (.n 9900) (.a (.a (.v 0) (.m 8 (.v 1))) (.n 1)) (.n 9000) rfl [_, _] this

noncomputable abbrev retv : Flow → Value
  | .ret v => v
  | _ => .none

section
variable {w : World} {loose : List Str} {mean : ExcName → Option Value} {mg mb : Str → Option Value} {A : Around} {s : Shared} {Q E : Value → Shared → Prop}

theorem enter {name qual : Str} {params : Arguments} {body : List Stmt} {a : Stmt} {l : List Stmt} {scope : Scope} {cl : List (Str × Addr)} {dV kV doc pm cdv ct : Value} {an : Option Addr} {fo : Obj} {f : Addr} {args : List Value} {binds : List (Str × Value)} {n : Nat}
    (W : Wd w loose mean mg mb s.heap) (r : Rm A (n + 1)) (ho : (gh s.heap).get? f = some fo) (hd : fo.data = .func (fnX name qual params body scope cl dV kV doc pm an cdv ct)) (hcd : (gh s.heap).CodeRec cdv qual)
    (hbind : BindsTo s (fnX name qual params body scope cl dV kV doc pm an cdv ct) ⟨args, []⟩ binds) (hloc : ∀ y ∈ binds, scope.names.lookup y.1 = some .local)
    (h : ∀ ps h₁ tk, TabV s.heap ps → s.heap.get? 100 = some (tabObj ps) → Rm (A.deeper (envX qual scope s.heap.objs.size f cdv cl)) n → Ext1 s.heap h₁ → Fr (gh s.heap) s.heap.objs.size h₁ (fun y => binds.reverse.lookup y) → News (gh s.heap) s.heap.objs.size h₁ [(100, tabObj ps)] →
      wpAny (model PR w) (A.deeper (envX qual scope s.heap.objs.size f cdv cl)) (execs (a :: l) (envX qual scope s.heap.objs.size f cdv cl)) (fun fl s' => Q (retv fl) s') (fun _ _ => False) { s with heap := h₁, toks := tk })
    (hcell : ∀ x ∈ scope.names, x.2 ≠ .cell := by decide) (hb : body = a :: l := by rfl) (hco : scope.isCoroutine = false := by rfl) (hgen : scope.isGenerator = false := by rfl) (hk : scope.kind = .function := by rfl) :
    wpAny (model PR w) A (call (.ref f) args) Q E s := by
  subst hb
  obtain ⟨ps, h100, V⟩ := W.tab
  refine wpAny_call (codeAny_call_def (fd := fnX name qual params (a :: l) scope cl dV kV doc pm an cdv ct) (body := a :: l) (binds := binds) r.depth (of_gh ho) hd (W.T.nolimit.keeps fun b o e => of_gh e) ?_ rfl hbind hcell hloc (fun h₁ hns hk₁ => ?_) hco hgen hk)
  · obtain ⟨c, oc, vs, tq, hc, hoc, hr⟩ := hcd
    exact ⟨c, oc, vs, tq, hc, of_gh hoc, hr⟩
  · refine wpAny_mono (h ps h₁ _ V h100 (r.deeper _) (Ext1.of hk₁) ⟨hns, fun b o e => hk₁ b o (of_gh e), Nat.le_of_eq gh_size⟩ ?_) (fun fl s' hq => ?_) fun _ _ e => e.elim
    · intro p hp
      rw [List.mem_singleton.mp hp]
      exact ⟨hk₁ _ _ h100, Nat.ne_of_lt (Heap.lt_size h100), gh_100⟩
    · cases fl <;> exact hq

theorem leave {L : Addr} {h' : Heap} {m : Str → Option Value} {news : List (Addr × Obj)} {ps : Array Value} {tk : Nat} (F : Fr (gh s.heap) L h' m) (N : News (gh s.heap) L h' news) (V : TabV s.heap ps) (hm : (100, tabObj ps) ∈ news) : Stp s { s with heap := h', toks := tk } := by
  have x : Ext1 s.heap h' := fun b o n e => F.keep b o (gh_ne e n)
  exact ⟨h', tk, rfl, x, ps, (N _ hm).1, V.ext x⟩

/-- nothing that stands is changed -/
noncomputable def St0 (s s' : Shared) : Prop := ∃ h' tk', s' = { s with heap := h', toks := tk' } ∧ ∀ b o, s.heap.get? b = some o → h'.get? b = some o
theorem St0.refl (s : Shared) : St0 s s := ⟨s.heap, s.toks, rfl, fun _ _ e => e⟩
theorem leave0 {L : Addr} {h' : Heap} {m : Str → Option Value} {news : List (Addr × Obj)} {ps : Array Value} {tk : Nat} (F : Fr (gh s.heap) L h' m) (N : News (gh s.heap) L h' news) (h100 : s.heap.get? 100 = some (tabObj ps)) (hm : (100, tabObj ps) ∈ news) : St0 s { s with heap := h', toks := tk } := by
  refine ⟨h', tk, rfl, fun b o e => ?_⟩
  by_cases hb : b = 100
  · subst hb
    rw [h100] at e
    cases e
    exact (N _ hm).1
  · exact F.keep b o (gh_ne e hb)
theorem Wd.keeps {h h' : Heap} (W : Wd w loose mean mg mb h) (k : ∀ b o, h.get? b = some o → h'.get? b = some o) : Wd w loose mean mg mb h' :=
  W.next (Ext1.of k) (let ⟨ps, e, v⟩ := W.tab; ⟨ps, k _ _ e, v.ext (Ext1.of k)⟩)
/-- in the midst of a body -/
theorem Wd.mid {L : Addr} {h' : Heap} {m : Str → Option Value} {news : List (Addr × Obj)} {ps : Array Value} (W : Wd w loose mean mg mb s.heap) (F : Fr (gh s.heap) L h' m) (N : News (gh s.heap) L h' news) (V : TabV s.heap ps) (hm : (100, tabObj ps) ∈ news) : Wd w loose mean mg mb h' := by
  have x : Ext1 s.heap h' := fun b o n e => F.keep b o (gh_ne e n)
  exact W.next x ⟨ps, (N _ hm).1, V.ext x⟩
end

end Mine
end
section
open PySem PySem.W PySem.Calls PyProof.Rows
set_option Elab.async false
set_option maxRecDepth 100000
set_option maxHeartbeats 8000000
namespace Mine
theorem fillK (w : World) : (kfr w.params).length = 92 ∧ PySem.Challenge.rw_oc0074_01.foot = 6 := by
  k_fill
  exact ⟨rfl, rfl⟩
section
variable {w : World} {loose : List Str} {mean : ExcName → Option Value} {mg mb : Str → Option Value} {A : Around} {s : Shared} {Q E : Value → Shared → Prop}
theorem c_twc {x y : Int} {tx ty : Tok} (W : Wd w loose mean mg mb s.heap) (r : Rm A 2)
    (hQ : ∀ t s', St0 s s' → Q (.int (b2i (decide (y < x)) - b2i (decide (x < y))) t) s') : wpAny (model PR w) A (call (.ref 21) [.int x tx, .int y ty]) Q E s := by
  have X := W.X
  have T := W.T
  refine enter W r (X _ _ (by k_is)) rfl (codeRec_of X (by k_is)) (BindsTo.of_eq rfl) (locs rfl) ?_
  intro ps h₁ tk V h100 r' x₁ F N
  k_steps
  exact hQ _ _ (leave0 F N h100 (by simp))
theorem c_twcs {x y : Str} {tx ty : Tok} (W : Wd w loose mean mg mb s.heap) (r : Rm A 2)
    (hQ : ∀ t s', St0 s s' → Q (.int (b2i (decide (y.cps.toList < x.cps.toList)) - b2i (decide (x.cps.toList < y.cps.toList))) t) s') : wpAny (model PR w) A (call (.ref 21) [.str x tx, .str y ty]) Q E s := by
  have X := W.X
  have T := W.T
  refine enter W r (X _ _ (by k_is)) rfl (codeRec_of X (by k_is)) (BindsTo.of_eq rfl) (locs rfl) ?_
  intro ps h₁ tk V h100 r' x₁ F N
  k_steps
  exact hQ _ _ (leave0 F N h100 (by simp))
theorem c_imode {x : Int} {tx : Tok} (W : Wd w loose mean mg mb s.heap) (r : Rm A 2)
    (hQ : ∀ t s', St0 s s' → Q (.int (Builtin.bitAnd x 4095) t) s') : wpAny (model PR w) A (call (.ref 44) [.int x tx]) Q E s := by
  have X := W.X
  have T := W.T
  refine enter W r (X _ _ (by k_is)) rfl (codeRec_of X (by k_is)) (BindsTo.of_eq rfl) (locs rfl) ?_
  intro ps h₁ tk V h100 r' x₁ F N
  k_steps
  exact hQ _ _ (leave0 F N h100 (by simp))
theorem c_ifmt {x : Int} {tx : Tok} (W : Wd w loose mean mg mb s.heap) (r : Rm A 2)
    (hQ : ∀ t s', St0 s s' → Q (.int (Builtin.bitAnd x 61440) t) s') : wpAny (model PR w) A (call (.ref 51) [.int x tx]) Q E s := by
  have X := W.X
  have T := W.T
  refine enter W r (X _ _ (by k_is)) rfl (codeRec_of X (by k_is)) (BindsTo.of_eq rfl) (locs rfl) ?_
  intro ps h₁ tk V h100 r' x₁ F N
  k_steps
  exact hQ _ _ (leave0 F N h100 (by simp))
end
end Mine
end
section
open PySem PySem.W PySem.Calls PyProof.Rows
set_option Elab.async false
set_option maxRecDepth 100000
set_option maxHeartbeats 4000000
set_option linter.unusedVariables false
namespace Mine
section
variable {prog : Program} {w : World} {A : Around} {E : Value → Shared → Prop} {s : Shared}

theorem tup_next {it t : Addr} {i : Nat} {items : Array Value} {x : Value} {Q : Value → Shared → Prop} (hit : s.heap.IsTupleIter it t i) (ht : s.heap.IsTuple t items) (hx : items[i]? = some x)
    (hQ : ∀ h', h'.IsTupleIter it t (i + 1) → Heap.SameBut it s.heap h' → Q x { s with heap := h' }) : wpAny (model prog w) A (Builtin.SmallTypes.nextOf (.ref it)) Q E s := by
  obtain ⟨o, ho, hc, hd⟩ := id hit
  obtain ⟨ol, hol, _, nl, hdl⟩ := ht
  unfold Builtin.SmallTypes.nextOf
  refine wpAny_bind (wpAny_callSpecial?_slot (name := Str.ofString "__next__") hit.typeIs F.slot_tuple_iterator_next (wpAny_call_entry F.slot_tuple_iterator_next hit.typeIs F.entry_tuple_iterator_next ?_ (F.args_tuple_iterator_next_1 _)))
  show wpAny _ _ (field (.ref it) 0 >>= _) _ _ s
  refine wpAny_bind (wpAny_field ho hd (x := .ref t) rfl ?_)
  show wpAny _ _ (if (Value.ref t == Value.none) = true then _ else _) _ _ s
  rw [if_neg (show ¬ ((Value.ref t == Value.none) = true) from Bool.false_ne_true)]
  show wpAny _ _ (field (.ref it) 1 >>= _) _ _ s
  refine wpAny_bind (wpAny_field ho hd (x := .int i 0) rfl ?_)
  show wpAny _ _ (seqItems? (.ref t) >>= _) _ _ s
  refine wpAny_bind (wpAny_seqItems hol hdl ?_)
  simp only [Int.toNat_natCast, hx]
  refine wpAny_bind (wpAny_setField ho hd (by simp) (wpAny_pure ⟨x, rfl, wpAny_pure (hQ _ ?_ (Heap.SameBut.update ..))⟩))
  exact ⟨_, Heap.get?_update_self _ ho (Obj.isFreed_of_fields (Obj.data_mapFields hd _)), (Obj.cls_mapFields ..).trans hc, by rw [Obj.data_mapFields hd]; simp [rawInt]⟩

theorem tup_end {it t : Addr} {i : Nat} {items : Array Value} {Q : Value → Shared → Prop} (hh : A.handled = none) (hit : s.heap.IsTupleIter it t i) (ht : s.heap.IsTuple t items) (hx : items[i]? = none)
    (hE : ∀ h' e, Heap.ExtBut it s.heap h' → (∃ o, h'.get? e = some o ∧ o.cls = .type "StopIteration") → E (.ref e) { s with heap := h' }) : wpAny (model prog w) A (Builtin.SmallTypes.nextOf (.ref it)) Q E s := by
  obtain ⟨o, ho, hc, hd⟩ := id hit
  obtain ⟨ol, hol, _, nl, hdl⟩ := ht
  unfold Builtin.SmallTypes.nextOf
  refine wpAny_bind (wpAny_callSpecial?_slot (name := Str.ofString "__next__") hit.typeIs F.slot_tuple_iterator_next (wpAny_call_entry F.slot_tuple_iterator_next hit.typeIs F.entry_tuple_iterator_next ?_ (F.args_tuple_iterator_next_1 _)))
  show wpAny _ _ (field (.ref it) 0 >>= _) _ _ s
  refine wpAny_bind (wpAny_field ho hd (x := .ref t) rfl ?_)
  show wpAny _ _ (if (Value.ref t == Value.none) = true then _ else _) _ _ s
  rw [if_neg (show ¬ ((Value.ref t == Value.none) = true) from Bool.false_ne_true)]
  show wpAny _ _ (field (.ref it) 1 >>= _) _ _ s
  refine wpAny_bind (wpAny_field ho hd (x := .int i 0) rfl ?_)
  show wpAny _ _ (seqItems? (.ref t) >>= _) _ _ s
  refine wpAny_bind (wpAny_seqItems hol hdl ?_)
  simp only [Int.toNat_natCast, hx]
  refine wpAny_bind (wpAny_rule (wpAny_bind (wpAny_setField ho hd (by simp) ?_)))
  show wpAny _ _ (newExc (.type "StopIteration") [] >>= _) _ _ _
  refine wpAny_bind ?_
  simp only [newExc, newTuple]
  refine wpAny_bind (wpAny_newObj_type ?_ (by size_fits))
  refine wpAny_bind (m := firstArgMember _ _) (wpAny_of_eq (a := Value.none) (by first | rfl | (simp only [firstArgMember]; rfl)) ?_)
  refine wpAny_newObj_type ?_ (by size_fits)
  simp only [raiseNew]
  refine wpAny_bind (wpAny_handled ?_)
  first | rw [show A.in1.handled = none from hh] | rw [hh]
  refine wpAny_bind (wpAny_pure (wpAny_throw ?_))
  exact hE _ _ (((Heap.SameBut.update ..).extBut.push _).push _) ⟨_, Heap.get?_push_size _ rfl, rfl⟩
end

theorem drawsTup {prog : Program} {w : World} {A : Around} (hh : A.handled = none) (it l : Addr) (hne : l ≠ it) (items : Array Value) :
    Draws prog w A it [it, l] items.size (fun i v => items[i]? = some v) (fun i h => h.IsTupleIter it l i ∧ h.IsTuple l items) where
  live := fun _ _ st => let ⟨o, ho, _⟩ := st.1; ⟨o, ho⟩
  frame := fun _ _ _ st hk => ⟨st.1.at fun o e => hk it (by simp) o e, st.2.at fun o e => hk l (by simp) o e⟩
  item := fun i s Q E hi st hQ => by
    refine tup_next st.1 st.2 (x := items[i]) (by simp [hi]) fun h' hit' hs' => ?_
    exact hQ _ h' s.toks (by simp [hi]) ⟨hit', st.2.extBut hs'.extBut hne⟩ hs'
  done := fun s Q E st hE => tup_end hh st.1 st.2 (by simp) hE

section
variable {prog : Program} {w : World} {A : Around} {E : Value → Shared → Prop} {s : Shared}
open AutoSeq1 (wpAny_loadPart')
theorem enumT_new (l : Addr) (items : Array Value) (n : Nat) (dct : Option Addr) (sl : Array (Option Value)) :
    Meets (Builtin.«enumerate.__new__» ⟨[.type "enumerate", .ref l], []⟩) (fun _ R s => s.heap.get? l = some { cls := .type "tuple", dict := dct, data := .seq items n, slots := sl } ∧
      R (.ok (.ret (.ref (s.heap.push { cls := .type "tuple_iterator", data := .fields #[.ref l, .int 0 0] }).objs.size)))
        { s with heap := (s.heap.push { cls := .type "tuple_iterator", data := .fields #[.ref l, .int 0 0] }).push { cls := .type "enumerate", data := .fields #[.none, .bool false, .ref s.heap.objs.size, rawInt 0, .none, .none] } }) :=
  .of_wp fun prog w A R s h => by
    obtain ⟨hp, g, d, tk, os⟩ := s; obtain ⟨hl, h⟩ := h
    have hsub := sub_enumerate
    have hL : Heap.IsTuple (Shared.heap ⟨hp, g, d, tk, os⟩) l items := ⟨_, hl, rfl, n, rfl⟩
    wp_walk using wpAny_loadPart' hl
    refine wpAny_stack_any fun st => wpAny_pure ?_
    split
    · rename_i c _ _ _ _ _
      cases (c == Value.type "enumerate")
      · wp_walk using wpAny_loadPart' hl, wpAny_pyIter_tuple hL
        exact ⟨_, rfl, h⟩
      · wp_walk using wpAny_loadPart' hl, wpAny_pyIter_tuple hL
        exact ⟨_, rfl, h⟩
    · wp_walk using wpAny_loadPart' hl, wpAny_pyIter_tuple hL
      exact ⟨_, rfl, h⟩

theorem call_enumT {l : Addr} {items : Array Value} {Q : Value → Shared → Prop} (hL : s.heap.IsTuple l items)
    (h : ∀ h', IsEnum h' (s.heap.objs.size + 1) s.heap.objs.size 0 .none → h'.IsTupleIter s.heap.objs.size l 0 → h'.objs.size = s.heap.objs.size + 2 →
      (∀ b o, s.heap.get? b = some o → h'.get? b = some o) → Q (.ref (s.heap.objs.size + 1)) { s with heap := h' }) :
    wpAny (model prog w) A (call (.type "enumerate") [.ref l]) Q E s := by
  obtain ⟨⟨c, dct, dt, sl⟩, hl, hc, n, hd⟩ := hL
  replace hc : c = .type "tuple" := hc
  replace hd : dt = .seq items n := hd
  subst hc hd
  refine callType_new F.called_enumerate (by decide) (F.typeCall_enumerate_1 _) (F.newCall_enumerate_1 _) (fun obj => F.args_object_init_2 obj _) F.entry_enumerate_new (enumT_new l items n dct sl) ⟨hl, ?_⟩
  have hz : (s.heap.push { cls := .type "tuple_iterator", data := .fields #[.ref l, .int 0 0] }).objs.size = s.heap.objs.size + 1 := Heap.size_push ..
  show _ ∧ _
  rw [hz]
  have he : IsEnum ((s.heap.push { cls := .type "tuple_iterator", data := .fields #[.ref l, .int 0 0] }).push
      { cls := .type "enumerate", data := .fields #[.none, .bool false, .ref s.heap.objs.size, rawInt 0, .none, .none] }) (s.heap.objs.size + 1) s.heap.objs.size 0 .none := by
    have := Heap.get?_push_size (s.heap.push { cls := .type "tuple_iterator", data := .fields #[.ref l, .int 0 0] })
      (o := { cls := .type "enumerate", data := .fields #[.none, .bool false, .ref s.heap.objs.size, rawInt 0, .none, .none] }) rfl
    rw [hz] at this; exact this
  refine ⟨⟨_, he, rfl⟩, h _ he ⟨_, Heap.get?_push_of_some _ (Heap.get?_push_size _ rfl), rfl, rfl⟩ (by rw [Heap.size_push, hz]) fun b o x => Heap.get?_push_of_some _ (Heap.get?_push_of_some _ x)⟩
end
end Mine
end
section
open PySem PySem.W PySem.Calls PyProof.Rows
set_option Elab.async false
set_option maxRecDepth 100000
set_option maxHeartbeats 4000000
set_option linter.unusedVariables false
namespace Mine
section
variable {w : World} {A : Around} {s : Shared} {env : Env} {g : Heap} {target : Expr} {body orelse : List Stmt} {R : Result → Shared → Prop}

/-- how a turn of a loop ends -/
noncomputable def TurnE (g : Heap) (L : Addr) (wr : List Addr) (own : List (Addr × Obj)) (J : (Str → Option Value) → List (Addr × Obj) → Prop) (R : Result → Shared → Prop) (s : Shared) : Flow → Shared → Prop
  | .ret v, s₃ => R (.ok (.ret v)) s₃
  | .brk, s₃ => R (.ok .next) s₃
  | _, s₃ => ∃ h' tk' m' news', s₃ = { s with heap := h', toks := tk' } ∧ Fr g L h' m' ∧ News g L h' (own ++ news') ∧ (∀ p ∈ news', p.1 ∉ wr) ∧ J m' news'

theorem forE {I : Addr} {fp wr : List Addr} {n : Nat} {P Md : Nat → Value → Heap → Prop} {St : Nat → Heap → Prop} {m : Str → Option Value} {news : List (Addr × Obj)} (W : KTurns PR w A target I fp wr n P Md St)
    (hLf : env.locals ∉ fp) (hwr : ∀ b ∈ wr, g.get? b = none) (hnw : ∀ p ∈ news, p.1 ∉ wr) (hst : St 0 s.heap) (F : Fr g env.locals s.heap m) (N : News g env.locals s.heap news)
    (J : Nat → (Str → Option Value) → List (Addr × Obj) → Prop) (h0 : J 0 m news)
    (step : ∀ i v m₁ news₁ h₁ tk₁ own, i < n → P i v h₁ → St (i + 1) h₁ → J i m₁ news₁ → (∀ p ∈ news₁, p.1 ∉ wr) → (∀ p ∈ own, p.1 ∈ fp ∧ h₁.get? p.1 = some p.2 ∧ g.get? p.1 = none) → (∀ b ∈ fp, g.get? b = none → ∀ o, h₁.get? b = some o → (b, o) ∈ own) →
      Fr g env.locals h₁ m₁ → News g env.locals h₁ (own ++ news₁) →
      wpAny (model PR w) A (assign target env v) (fun _ s₂ => wpAny (model PR w) A (execs body env) (TurnE g env.locals wr own (J (i + 1)) R s) (fun _ _ => False) s₂) (fun _ _ => False) { s with heap := h₁, toks := tk₁ })
    (done : ∀ h' tk m' news', Fr g env.locals h' m' → News g env.locals h' news' → (∀ p ∈ news', p.1 ∉ wr) → J n m' news' → wpAny (model PR w) A (execs orelse env) (fun f s₃ => R (.ok f) s₃) (fun _ _ => False) { s with heap := h', toks := tk }) :
    codeAny (model PR w) A (.forLoop target (.ref I) body orelse env) R s := by
  have hLw : env.locals ∉ wr := fun h => hLf (W.sub _ h)
  have old : ∀ b o, g.get? b = some o → b ∉ wr := fun b o e hb => by rw [hwr b hb] at e; cases e
  refine codeAny_forLoop_any
    (fun k s' => ∃ h' tk m' news' i, s' = { s with heap := h', toks := tk } ∧ St i h' ∧ Fr g env.locals h' m' ∧ News g env.locals h' news' ∧ (∀ p ∈ news', p.1 ∉ wr) ∧ J i m' news' ∧ i ≤ n ∧ k = n + 1 - i) ?_ (n + 1)
    ⟨s.heap, s.toks, m, news, 0, rfl, hst, F, N, hnw, h0, Nat.zero_le _, rfl⟩
  rintro k s' ⟨h', tk, m', news', i, rfl, hst', F', N', hnw', hJ, hi, rfl⟩
  have next : ∀ h₁ : Heap, (∀ b o, b ∉ wr → h'.get? b = some o → h₁.get? b = some o) → Fr g env.locals h₁ m' ∧ News g env.locals h₁ news' := fun h₁ hk₁ =>
    ⟨⟨F'.ns.at' fun o e => hk₁ _ o hLw e, fun b o e => hk₁ b o (old b o e) (F'.keep b o e), F'.above⟩, fun p hp => ⟨hk₁ _ _ (hnw' p hp) (N' p hp).1, (N' p hp).2⟩⟩
  by_cases hlt : i < n
  · refine W.item i _ _ _ hlt hst' fun v h₁ tk₁ hMd hk₁ => ?_
    refine W.go i v _ _ _ hMd fun h₂ hP hst₂ hk₂ => ?_
    obtain ⟨F₂, N₂⟩ := next h₂ fun b o hb x => hk₂ b o hb (hk₁ b o hb x)
    have Nown : News g env.locals h₂ (PyProof.Rows.ownOf g fp h₂) := news_ownOf hLf
    have back : ∀ s₃, (∃ h' tk' m' news', s₃ = { s with heap := h', toks := tk' } ∧ Fr g env.locals h' m' ∧ News g env.locals h' (PyProof.Rows.ownOf g fp h₂ ++ news') ∧ (∀ p ∈ news', p.1 ∉ wr) ∧ J (i + 1) m' news') →
        ∃ m, m < n + 1 - i ∧ ∃ h' tk m' news' i, s₃ = { s with heap := h', toks := tk } ∧ St i h' ∧ Fr g env.locals h' m' ∧ News g env.locals h' news' ∧ (∀ p ∈ news', p.1 ∉ wr) ∧ J i m' news' ∧ i ≤ n ∧ m = n + 1 - i := by
      rintro s₃ ⟨h₃, tk₃, m₂, news₂, rfl, F₃, N₃, ha₃, hJ₃⟩
      refine ⟨n + 1 - (i + 1), by exact fk2 1 1 1 (.a (.v 0) (.n 1)) (.v 1) (.a (.v 2) (.n 1)) (.a (.v 1) (.v 3)) (.a (.v 0) (.a (.v 3) (.n 1))) (.a (.v 2) (.n 1)) rfl [_, _, _, _] (sb2 _ _) (sb3 (fk1 1 1 (.a (.v 0) (.n 1)) (.a (.v 1) (.n 1)) (.v 0) (.v 1) rfl [_, _] hi)), h₃, tk₃, m₂, news₂, i + 1, rfl, ?_, F₃, N₃.right, ha₃, hJ₃, hlt, rfl⟩
      refine W.frame _ _ _ hst₂ fun b hb o e => ?_
      cases hn : g.get? b with
      | some o₀ =>
        have : o₀ = o := by have q := F₂.keep b o₀ hn; rw [e] at q; exact (Option.some.inj q).symm
        exact this ▸ F₃.keep b o₀ hn
      | none => exact (N₃ _ (List.mem_append_left _ (mem_ownOf hb hn e))).1
    refine wpAny_mono (step i v m' news' h₂ tk₁ (PyProof.Rows.ownOf g fp h₂) hlt hP hst₂ hJ hnw' (fun p hp => ⟨ownOf_sub p hp, (Nown p hp).1, (Nown p hp).2.2⟩) (fun b hb hn o e => mem_ownOf hb hn e) F₂ (Nown.append N₂)) (fun _ s₂ h₂' => wpAny_mono h₂' (fun f s₃ h₃ => ?_) fun _ _ e => e.elim) fun _ _ e => e.elim
    cases f with
    | ret v => exact h₃
    | brk => exact h₃
    | cont => exact back _ h₃
    | next => exact back _ h₃
  · have hin : i = n := by exact Nat.le_antisymm (fk1 1 1 (.v 0) (.v 1) (.v 0) (.v 1) rfl [_, _] hi) (fk1 1 1 (.v 0) (.v 1) (.v 0) (.v 1) rfl [_, _] (Nat.le_of_not_lt hlt))
    subst hin
    refine W.done _ _ _ hst' fun h₁ tk₁ hk₁ => ?_
    obtain ⟨F₁, N₁⟩ := next h₁ hk₁
    exact wpAny_mono (done h₁ tk₁ m' news' F₁ N₁ hnw' hJ) (fun _ _ q => q) fun _ _ e => e.elim

/-- a for over a list or a tuple that stands below -/
theorem forT {I ax : Addr} {its : Array Value} {St : Nat → Heap → Prop} {m : Str → Option Value} {news : List (Addr × Obj)} {ob : Obj} (W : Walks PR w A I [I, ax] [I] its.size (fun i v => its[i]? = some v) St)
    (hgo : ∀ i v (s : Shared) (Q : Unit → Shared → Prop) (E : Value → Shared → Prop), St i s.heap → Q () s → wpAny (model PR w) A (letOwnedTupleGo target (.ref I) v) Q E s)
    (hIo : ∀ i h, St i h → ∃ o, h.get? I = some o) (hb : g.get? ax = some ob) (hI0 : g.get? I = none) (hIL : env.locals ≠ I) (hnw : ∀ p ∈ news, p.1 ≠ I) (hst : St 0 s.heap) (F : Fr g env.locals s.heap m) (N : News g env.locals s.heap news)
    (J : Nat → (Str → Option Value) → List (Addr × Obj) → Prop) (h0 : J 0 m news)
    (step : ∀ i v m₁ news₁ h₁ tk₁ oI, i < its.size → its[i]? = some v → J i m₁ news₁ → (∀ p ∈ news₁, p.1 ≠ I) → Fr g env.locals h₁ m₁ → News g env.locals h₁ ((I, oI) :: news₁) →
      wpAny (model PR w) A (assign target env v) (fun _ s₂ => wpAny (model PR w) A (execs body env) (TurnE g env.locals [I] [(I, oI)] (J (i + 1)) R s) (fun _ _ => False) s₂) (fun _ _ => False) { s with heap := h₁, toks := tk₁ })
    (done : ∀ h' tk m' news', Fr g env.locals h' m' → News g env.locals h' news' → (∀ p ∈ news', p.1 ≠ I) → J its.size m' news' → wpAny (model PR w) A (execs orelse env) (fun f s₃ => R (.ok f) s₃) (fun _ _ => False) { s with heap := h', toks := tk }) :
    codeAny (model PR w) A (.forLoop target (.ref I) body orelse env) R s := by
  have hL : env.locals ∉ [I, ax] := by
    intro q
    rcases List.mem_cons.mp q with e | q
    · exact hIL e
    · have e := List.mem_singleton.mp q
      have := Heap.lt_size hb
      have := F.above
      rw [← e] at hb
      exact absurd (Heap.lt_size hb) (Nat.not_lt.mpr F.above)
  have one : ∀ (x : Addr), x ∉ [I] ↔ x ≠ I := fun x => by simp
  refine forE (KTurns.ofWalks W hgo) hL (fun b hb' => by rw [List.mem_singleton.mp hb']; exact hI0) (fun p hp => (one _).mpr (hnw p hp)) hst F N J h0 ?_ fun h' tk m' news' F' N' a j => done h' tk m' news' F' N' (fun p hp => (one _).mp (a p hp)) j
  intro i v m₁ news₁ h₁ tk₁ own hi hP hs hJ ha ho1 ho2 F₁ N₁
  obtain ⟨oI, hoI⟩ := hIo _ _ hs
  have hown : ∀ p ∈ own, p = (I, oI) := fun p hp => by
    obtain ⟨q1, q2, q3⟩ := ho1 p hp
    obtain ⟨pa, po⟩ := p
    rcases List.mem_cons.mp q1 with e | q1
    · have e' : pa = I := e
      subst e'
      have q2' : h₁.get? pa = some po := q2
      rw [hoI] at q2'
      cases q2'
      rfl
    · have e' : pa = ax := List.mem_singleton.mp q1
      subst e'
      have q3' : g.get? pa = none := q3
      rw [hb] at q3'; cases q3'
  have hin : (I, oI) ∈ own := ho2 I (by simp) hI0 oI hoI
  have N₁' : News g env.locals h₁ ((I, oI) :: news₁) := fun p hp => by
    rcases List.mem_cons.mp hp with rfl | hp
    · exact N₁ _ (List.mem_append_left _ hin)
    · exact N₁ _ (List.mem_append_right _ hp)
  refine wpAny_mono (step i v m₁ news₁ h₁ tk₁ oI hi hP hJ (fun p hp => (one _).mp (ha p hp)) F₁ N₁') (fun _ s₂ h₂ => wpAny_mono h₂ (fun f s₃ h₃ => ?_) fun _ _ e => e) fun _ _ e => e
  have conv : (∃ h' tk' m' news', s₃ = { s with heap := h', toks := tk' } ∧ Fr g env.locals h' m' ∧ News g env.locals h' ([(I, oI)] ++ news') ∧ (∀ p ∈ news', p.1 ∉ [I]) ∧ J (i + 1) m' news') →
      (∃ h' tk' m' news', s₃ = { s with heap := h', toks := tk' } ∧ Fr g env.locals h' m' ∧ News g env.locals h' (own ++ news') ∧ (∀ p ∈ news', p.1 ∉ [I]) ∧ J (i + 1) m' news') := by
    rintro ⟨h', tk', m', news', e, F', N', a, j⟩
    refine ⟨h', tk', m', news', e, F', fun p hp => ?_, a, j⟩
    rcases List.mem_append.mp hp with hp | hp
    · rw [hown p hp]; exact N' _ (by simp)
    · exact N' _ (List.mem_append_right _ hp)
  cases f with
  | ret v => exact h₃
  | brk => exact h₃
  | cont => exact conv h₃
  | next => exact conv h₃
end
end Mine
end
section
open PySem PySem.W PySem.Calls PyProof.Rows
set_option Elab.async false
set_option maxRecDepth 100000
set_option maxHeartbeats 8000000
set_option linter.unusedVariables false
namespace Mine

noncomputable def tblD : Nat → List (Int × Str)
  | 0 => [(40960, Str.ofString "l"), (49152, Str.ofString "s"), (32768, Str.ofString "-"), (24576, Str.ofString "b"), (16384, Str.ofString "d"), (8192, Str.ofString "c"), (4096, Str.ofString "p")]
  | 1 => [(256, Str.ofString "r")]
  | 2 => [(128, Str.ofString "w")]
  | 3 => [(2112, Str.ofString "s"), (2048, Str.ofString "S"), (64, Str.ofString "x")]
  | 4 => [(32, Str.ofString "r")]
  | 5 => [(16, Str.ofString "w")]
  | 6 => [(1032, Str.ofString "s"), (1024, Str.ofString "S"), (8, Str.ofString "x")]
  | 7 => [(4, Str.ofString "r")]
  | 8 => [(2, Str.ofString "w")]
  | 9 => [(513, Str.ofString "t"), (512, Str.ofString "T"), (1, Str.ofString "x")]
  | _ => []
noncomputable def TblAt (g : Heap) (i : Nat) (x : Value) : Prop := ∃ (a : Addr) (ents : List (Addr × Int × Tok × Str × Tok)), x = .ref a ∧ g.IsTuple a (ents.map fun e => Value.ref e.1).toArray ∧
  (∀ e ∈ ents, IsTup g e.1 #[.int e.2.1 e.2.2.1, .str e.2.2.2.1 e.2.2.2.2]) ∧ ents.map (fun e => (e.2.1, e.2.2.2.1)) = tblD i
theorem tbl_ok {w : World} {g : Heap} (X : (kfr w.params).In g) : ∀ (i : Nat) (x : Value), (#[Value.ref 59, Value.ref 61, Value.ref 63, Value.ref 67, Value.ref 69, Value.ref 71, Value.ref 75, Value.ref 77, Value.ref 79, Value.ref 83] : Array Value)[i]? = some x → TblAt g i x
  | 0, x, e => by
    cases e
    refine ⟨59, [(52, 40960, 247, Str.ofString "l", 275), (53, 49152, 249, Str.ofString "s", 276), (54, 32768, 243, Str.ofString "-", 277), (55, 24576, 241, Str.ofString "b", 278), (56, 16384, 237, Str.ofString "d", 279), (57, 8192, 239, Str.ofString "c", 280), (58, 4096, 245, Str.ofString "p", 281)], rfl, ⟨_, X _ _ (by k_is), rfl, _, rfl⟩, ?_, rfl⟩
    intro e he
    rcases List.mem_cons.mp he with rfl | he
    · exact ⟨_, X _ _ (by k_is), rfl, _, rfl⟩
    rcases List.mem_cons.mp he with rfl | he
    · exact ⟨_, X _ _ (by k_is), rfl, _, rfl⟩
    rcases List.mem_cons.mp he with rfl | he
    · exact ⟨_, X _ _ (by k_is), rfl, _, rfl⟩
    rcases List.mem_cons.mp he with rfl | he
    · exact ⟨_, X _ _ (by k_is), rfl, _, rfl⟩
    rcases List.mem_cons.mp he with rfl | he
    · exact ⟨_, X _ _ (by k_is), rfl, _, rfl⟩
    rcases List.mem_cons.mp he with rfl | he
    · exact ⟨_, X _ _ (by k_is), rfl, _, rfl⟩
    rw [List.mem_singleton.mp he]
    exact ⟨_, X _ _ (by k_is), rfl, _, rfl⟩
  | 1, x, e => by
    cases e
    refine ⟨61, [(60, 256, 257, Str.ofString "r", 282)], rfl, ⟨_, X _ _ (by k_is), rfl, _, rfl⟩, ?_, rfl⟩
    intro e he
    rw [List.mem_singleton.mp he]
    exact ⟨_, X _ _ (by k_is), rfl, _, rfl⟩
  | 2, x, e => by
    cases e
    refine ⟨63, [(62, 128, 259, Str.ofString "w", 283)], rfl, ⟨_, X _ _ (by k_is), rfl, _, rfl⟩, ?_, rfl⟩
    intro e he
    rw [List.mem_singleton.mp he]
    exact ⟨_, X _ _ (by k_is), rfl, _, rfl⟩
  | 3, x, e => by
    cases e
    refine ⟨67, [(64, 2112, 284, Str.ofString "s", 285), (65, 2048, 251, Str.ofString "S", 286), (66, 64, 261, Str.ofString "x", 287)], rfl, ⟨_, X _ _ (by k_is), rfl, _, rfl⟩, ?_, rfl⟩
    intro e he
    rcases List.mem_cons.mp he with rfl | he
    · exact ⟨_, X _ _ (by k_is), rfl, _, rfl⟩
    rcases List.mem_cons.mp he with rfl | he
    · exact ⟨_, X _ _ (by k_is), rfl, _, rfl⟩
    rw [List.mem_singleton.mp he]
    exact ⟨_, X _ _ (by k_is), rfl, _, rfl⟩
  | 4, x, e => by
    cases e
    refine ⟨69, [(68, 32, 263, Str.ofString "r", 288)], rfl, ⟨_, X _ _ (by k_is), rfl, _, rfl⟩, ?_, rfl⟩
    intro e he
    rw [List.mem_singleton.mp he]
    exact ⟨_, X _ _ (by k_is), rfl, _, rfl⟩
  | 5, x, e => by
    cases e
    refine ⟨71, [(70, 16, 265, Str.ofString "w", 289)], rfl, ⟨_, X _ _ (by k_is), rfl, _, rfl⟩, ?_, rfl⟩
    intro e he
    rw [List.mem_singleton.mp he]
    exact ⟨_, X _ _ (by k_is), rfl, _, rfl⟩
  | 6, x, e => by
    cases e
    refine ⟨75, [(72, 1032, 290, Str.ofString "s", 291), (73, 1024, 253, Str.ofString "S", 292), (74, 8, 267, Str.ofString "x", 293)], rfl, ⟨_, X _ _ (by k_is), rfl, _, rfl⟩, ?_, rfl⟩
    intro e he
    rcases List.mem_cons.mp he with rfl | he
    · exact ⟨_, X _ _ (by k_is), rfl, _, rfl⟩
    rcases List.mem_cons.mp he with rfl | he
    · exact ⟨_, X _ _ (by k_is), rfl, _, rfl⟩
    rw [List.mem_singleton.mp he]
    exact ⟨_, X _ _ (by k_is), rfl, _, rfl⟩
  | 7, x, e => by
    cases e
    refine ⟨77, [(76, 4, 269, Str.ofString "r", 294)], rfl, ⟨_, X _ _ (by k_is), rfl, _, rfl⟩, ?_, rfl⟩
    intro e he
    rw [List.mem_singleton.mp he]
    exact ⟨_, X _ _ (by k_is), rfl, _, rfl⟩
  | 8, x, e => by
    cases e
    refine ⟨79, [(78, 2, 271, Str.ofString "w", 295)], rfl, ⟨_, X _ _ (by k_is), rfl, _, rfl⟩, ?_, rfl⟩
    intro e he
    rw [List.mem_singleton.mp he]
    exact ⟨_, X _ _ (by k_is), rfl, _, rfl⟩
  | 9, x, e => by
    cases e
    refine ⟨83, [(80, 513, 296, Str.ofString "t", 297), (81, 512, 255, Str.ofString "T", 298), (82, 1, 273, Str.ofString "x", 299)], rfl, ⟨_, X _ _ (by k_is), rfl, _, rfl⟩, ?_, rfl⟩
    intro e he
    rcases List.mem_cons.mp he with rfl | he
    · exact ⟨_, X _ _ (by k_is), rfl, _, rfl⟩
    rcases List.mem_cons.mp he with rfl | he
    · exact ⟨_, X _ _ (by k_is), rfl, _, rfl⟩
    rw [List.mem_singleton.mp he]
    exact ⟨_, X _ _ (by k_is), rfl, _, rfl⟩
  | i + 10, x, e => by simp at e
end Mine
end
section
open PySem PySem.W PySem.Calls PyProof.Rows
set_option Elab.async false
set_option maxRecDepth 100000
set_option maxHeartbeats 4000000
set_option linter.unusedVariables false
namespace Mine
theorem lot_tup {w : World} {A : Around} {s : Shared} {E : Value → Shared → Prop} {elts : List Expr} {x1} {pos : Pos} {I l : Addr} {v : Value} {i : Nat} {Q : Unit → Shared → Prop} (hit : s.heap.IsTupleIter I l i) (hQ : Q () s) :
    wpAny (model PR w) A (letOwnedTupleGo (.Tuple elts x1 pos) (.ref I) v) Q E s := by
  obtain ⟨o, ho, hc, hd⟩ := hit
  cases v with
  | ref T =>
    unfold letOwnedTupleGo
    refine wpAny_bind (wpAny_load ho ?_)
    rw [hc, hd]
    show wpAny _ A (if (["enumerate", "zip", "dict_itemiterator", "dict_reverseitemiterator", "odict_iterator", "itertools.zip_longest", "itertools.pairwise"].contains "tuple_iterator" &&
        (#[.ref l, .int i 0] : Array Value)[0]? == some (rawInt T)) = true then _ else _) Q E s
    rw [if_neg (by
      intro h
      rw [show (["enumerate", "zip", "dict_itemiterator", "dict_reverseitemiterator", "odict_iterator", "itertools.zip_longest", "itertools.pairwise"].contains "tuple_iterator") = false from by decide, Bool.false_and] at h
      cases h)]
    exact wpAny_pure hQ
  | _ => exact wpAny_pure hQ

section
variable {w : World} {A : Around} {s : Shared} {env : Env} {g : Heap} {elts : List Expr} {x1 : Nat} {pos : Pos} {body orelse : List Stmt} {R : Result → Shared → Prop} {E : Value → Shared → Prop}
theorem forTup {ax : Addr} {its : Array Value} {m : Str → Option Value} {news : List (Addr × Obj)} (hh : A.handled = none) (hax : g.IsTuple ax its) (F : Fr g env.locals s.heap m) (N : News g env.locals s.heap news)
    (J : Nat → (Str → Option Value) → List (Addr × Obj) → Prop) (h0 : J 0 m news)
    (step : ∀ i v m₁ news₁ h₁ tk₁ I oI, i < its.size → its[i]? = some v → J i m₁ news₁ → (∀ p ∈ news, p.1 < I) → (∀ p ∈ news₁, p.1 ≠ I) → Fr g env.locals h₁ m₁ → News g env.locals h₁ ((I, oI) :: news₁) →
      wpAny (model PR w) A (assign (.Tuple elts x1 pos) env v) (fun _ s₂ => wpAny (model PR w) A (execs body env) (TurnE g env.locals [I] [(I, oI)] (J (i + 1)) R s) (fun _ _ => False) s₂) (fun _ _ => False) { s with heap := h₁, toks := tk₁ })
    (done : ∀ h' tk m' news', Fr g env.locals h' m' → News g env.locals h' news' → J its.size m' news' → wpAny (model PR w) A (execs orelse env) (fun f s₃ => R (.ok f) s₃) (fun _ _ => False) { s with heap := h', toks := tk }) :
    wpAny (model PR w) A (pyIter (.ref ax)) (fun it s' => codeAny (model PR w) A (.forLoop (.Tuple elts x1 pos) it body orelse env) R s') E s := by
  have htD : s.heap.IsTuple ax its := let ⟨o, e, q⟩ := hax; ⟨o, F.keep _ _ e, q⟩
  refine wpAny_pyIter_tuple htD ?_
  obtain ⟨obT, hobT, _⟩ := id hax
  have atlt : (ax : Nat) < s.heap.objs.size := Heap.lt_size (F.keep _ _ hobT)
  have Llt : env.locals < s.heap.objs.size := F.ns.lt
  have hfr : g.get? s.heap.objs.size = none := Heap.get?_none_of_le (Nat.le_trans F.above (Nat.le_of_lt Llt))
  have kp : ∀ (o : Obj) b o', s.heap.get? b = some o' → (s.heap.push o).get? b = some o' := fun o b o' e => (Heap.get?_push_ne _ _ _ (Nat.ne_of_lt (Heap.lt_size e))).trans e
  have hlt := fun (p : Addr × Obj) hp => Heap.lt_size (N p hp).1
  have W := Walks.tuple (prog := PR) (w := w) (A := A) hh s.heap.objs.size ax (Nat.ne_of_lt atlt) its
  generalize hI : s.heap.objs.size = I at *
  have hst : (s.heap.push { cls := .type "tuple_iterator", data := .fields #[.ref ax, .int 0 0] }).IsTupleIter I ax 0 := ⟨_, hI ▸ Heap.get?_push_size _ rfl, rfl, rfl⟩
  exact forT (s := { s with heap := s.heap.push _ }) (g := g) W (fun _ _ _ _ _ st q => lot_tup st.1 q) (fun _ _ st => let ⟨o, e, _⟩ := st.1; ⟨o, e⟩) hobT hfr (Nat.ne_of_lt Llt) (fun p hp => Nat.ne_of_lt (hlt p hp)) ⟨hst, let ⟨o, e, q⟩ := htD; ⟨o, kp _ _ _ e, q⟩⟩ (F.keeps (kp _)) (N.grown (kp _)) J h0
    (fun i v m₁ news₁ h₁ tk₁ oI a b c d e f => step i v m₁ news₁ h₁ tk₁ I oI a b c hlt d e f) fun h' tk m' n' a b c d => done h' tk m' n' a b d
end
end Mine
end
section
open PySem PySem.W PySem.Calls PyProof.Rows
set_option Elab.async false
set_option maxRecDepth 100000
set_option maxHeartbeats 8000000
set_option linter.unusedVariables false
namespace Mine
noncomputable def tabs84 : Array Value := #[Value.ref 59, Value.ref 61, Value.ref 63, Value.ref 67, Value.ref 69, Value.ref 71, Value.ref 75, Value.ref 77, Value.ref 79, Value.ref 83]
noncomputable def fmC (x : Int) (i : Nat) (b : Int) : Bool := if i = 0 then decide (Builtin.bitAnd x 61440 = b) else decide (Builtin.bitAnd x b = b)
noncomputable def fmChar (x : Int) (i : Nat) : Str := match (tblD i).find? (fun e => fmC x i e.1) with
  | some e => e.2
  | none => if i = 0 then Str.ofString "?" else Str.ofString "-"
theorem fm_hit {x : Int} {i j : Nat} {ents : List (Addr × Int × Tok × Str × Tok)} {e : Addr × Int × Tok × Str × Tok} (htd : ents.map (fun e => (e.2.1, e.2.2.2.1)) = tblD i) (he : ents[j]? = some e)
    (hno : ∀ e' ∈ ents.take j, fmC x i e'.2.1 = false) (hc : fmC x i e.2.1 = true) : fmChar x i = e.2.2.2.1 := by
  unfold fmChar
  rw [← htd]
  have hs : ents = ents.take j ++ e :: ents.drop (j + 1) := by
    obtain ⟨h, rfl⟩ := List.getElem?_eq_some_iff.mp he
    rw [← List.drop_eq_getElem_cons, List.take_append_drop]
  rw [hs, List.map_append, List.find?_append]
  have h1 : ((ents.take j).map (fun e => (e.2.1, e.2.2.2.1))).find? (fun e => fmC x i e.1) = none := by
    rw [List.find?_eq_none]
    intro q hq
    obtain ⟨e', h1, rfl⟩ := List.mem_map.mp hq
    simp [hno e' h1]
  rw [h1, List.map_cons, List.find?_cons_of_pos (p := fun e : Int × Str => fmC x i e.1) hc]
  rfl
theorem fm_none {x : Int} {i : Nat} {ents : List (Addr × Int × Tok × Str × Tok)} (htd : ents.map (fun e => (e.2.1, e.2.2.2.1)) = tblD i)
    (hno : ∀ e' ∈ ents, fmC x i e'.2.1 = false) : fmChar x i = if i = 0 then Str.ofString "?" else Str.ofString "-" := by
  unfold fmChar
  rw [← htd]
  have h1 : (ents.map (fun e => (e.2.1, e.2.2.2.1))).find? (fun e => fmC x i e.1) = none := by
    rw [List.find?_eq_none]
    intro q hq
    obtain ⟨e', h1, rfl⟩ := List.mem_map.mp hq
    simp [hno e' h1]
  rw [h1]
noncomputable def fmText (x : Int) : Str := Txt.join (Str.ofString "") ((List.range 10).map (fmChar x))
noncomputable def fmOv (u m : Str → Option Value) : Str → Option Value := fun y => if y = Str.ofString "index" then u y else if y = Str.ofString "table" then u y else if y = Str.ofString "bit" then u y else if y = Str.ofString "char" then u y else m y
theorem tbl_len : ∀ i : Fin 10, ∀ e ∈ tblD i, e.2.length ≤ 1 := by decide +kernel
theorem fm_len {x : Int} {i : Nat} : (fmChar x i).length ≤ 1 := by
  unfold fmChar
  split
  · rename_i e he
    have := List.mem_of_find?_eq_some he
    by_cases hi : i < 10
    · exact tbl_len ⟨i, hi⟩ e this
    · have : tblD i = [] := by
        match i, hi with
        | n + 10, _ => rfl
      rename_i q
      rw [this] at q
      cases q
  · split
    · exact Nat.le_refl 1
    · exact Nat.le_refl 1
theorem fm_sum {x : Int} : ∀ l : List Nat, ((l.map (fmChar x)).map (·.length)).sum ≤ l.length
  | [] => Nat.le_refl 0
  | i :: l => by
    have := fm_sum (x := x) l
    have := fm_len (x := x) (i := i)
    simp only [List.map_cons, List.sum_cons, List.length_cons]
    exact fk2 1 1 1 (.a (.v 0) (.v 1)) (.a (.v 2) (.n 1)) (.v 1) (.v 2) (.v 0) (.n 1) rfl [_, _, _] (by assumption) this
theorem snocS {x : Str} {t : Tok} : ∀ {vs xs}, StrsAre vs xs → StrsAre (vs ++ [.str x t]) (xs ++ [x])
  | _, _, .nil => .cons x t .nil
  | _, _, .cons y u h => .cons y u (snocS h)

theorem lenS : ∀ {vs xs}, StrsAre vs xs → vs.length = xs.length
  | _, _, .nil => rfl
  | _, _, .cons _ _ h => congrArg (· + 1) (lenS h)
theorem notin2 {a b c : Nat} (h1 : a ≠ b) (h2 : a ≠ c) : a ∉ [b, c] := by simp [h1, h2]
theorem cut {α : Type} {M : Model} {A : Around} {t : Sem α} {P Q : α → Shared → Prop} {E : Value → Shared → Prop} {s : Shared} (h : wpAny M A t P E s) (k : ∀ a s', P a s' → Q a s') : wpAny M A t Q E s := wpAny_mono h k fun _ _ e => e

noncomputable def fmIn (u : Str → Option Value) (vi vt : Value) (m : Str → Option Value) : Str → Option Value := fun y => if y = Str.ofString "bit" then u y else if y = Str.ofString "char" then u y else if y = Str.ofString "index" then some vi else if y = Str.ofString "table" then some vt else m y
noncomputable def fmB (vp vm : Value) : Str → Option Value := fun y => if y = Str.ofString "perm" then some vp else if y = Str.ofString "mode" then some vm else none
theorem fmIn0 {u m : Str → Option Value} {vi vt : Value} : (fun y => if y = Str.ofString "table" then some vt else if y = Str.ofString "index" then some vi else fmOv u m y) = fmIn u vi vt m := by
  funext y
  by_cases h1 : y = Str.ofString "index"
  · subst h1; rfl
  by_cases h2 : y = Str.ofString "table"
  · subst h2; rfl
  simp only [fmOv, fmIn, if_neg h1, if_neg h2]
theorem fmIn1 {u m : Str → Option Value} {vi vt vb vc : Value} : (fun y => if y = Str.ofString "char" then some vc else if y = Str.ofString "bit" then some vb else fmIn u vi vt m y) = fmIn (fun y => if y = Str.ofString "char" then some vc else some vb) vi vt m := by
  funext y
  by_cases h3 : y = Str.ofString "bit"
  · subst h3; rfl
  by_cases h4 : y = Str.ofString "char"
  · subst h4; rfl
  simp only [fmOv, fmIn, if_neg h3, if_neg h4]
theorem fmIn2 {u m : Str → Option Value} {vi vt : Value} : fmIn u vi vt m = fmOv (fun y => if y = Str.ofString "bit" then u y else if y = Str.ofString "char" then u y else if y = Str.ofString "index" then some vi else some vt) m := by
  funext y
  by_cases h1 : y = Str.ofString "index"
  · subst h1; rfl
  by_cases h2 : y = Str.ofString "table"
  · subst h2; rfl
  by_cases h3 : y = Str.ofString "bit"
  · subst h3; rfl
  by_cases h4 : y = Str.ofString "char"
  · subst h4; rfl
  simp only [fmOv, fmIn, if_neg h1, if_neg h2, if_neg h3, if_neg h4]
theorem lookup1 {y k : Str} {v : Value} : List.lookup y [(k, v)] = if y = k then some v else none := by
  by_cases q : y = k
  · subst q; simp [List.lookup]
  · rw [if_neg q]
    have : (y == k) = false := by simpa using q
    simp [List.lookup, this]
section
variable {w : World} {loose : List Str} {mean : ExcName → Option Value} {mg mb : Str → Option Value} {A : Around} {s : Shared} {Q E : Value → Shared → Prop}

theorem c_filemode {x : Int} {tx : Tok} (W : Wd w loose mean mg mb s.heap) (r : Rm A 4)
    (hQ : ∀ t s', St0 s s' → Q (.str (fmText x) t) s') : wpAny (model PR w) A (call (.ref 91) [.int x tx]) Q E s := by
  have X := W.X
  have T := W.T
  refine enter W r (X _ _ (by k_is)) rfl (codeRec_of X (by k_is)) (BindsTo.of_eq rfl) (locs rfl) ?_
  intro ps h₁ tk V h100 r' x₁ F N
  iterate 8 walk1
  rename_i l hA l100 hB FB NB
  refine wpAny_For ?_
  iterate 6 (first | walk1 | skip)
  have h84 : hB.IsTuple 84 tabs84 := ⟨_, FB.keep _ _ (X _ _ (by k_is)), rfl, _, rfl⟩
  have l100' : (100 : Nat) < s.heap.objs.size := by obtain ⟨ps', e, _⟩ := W.tab; exact Heap.lt_size e
  have hLit : (s.heap.objs.size : Nat) < hB.objs.size := FB.ns.lt
  have hlit : (l : Nat) < hB.objs.size := Heap.lt_size (NB _ (.head _)).1
  refine call_enumT h84 fun hC hE hI hsz hk => ?_
  dsimp only at hE hI hsz hk
  have h84C : hC.IsTuple 84 tabs84 := let ⟨o, e, q⟩ := h84; ⟨o, hk _ _ e, q⟩
  generalize hB.objs.size = it at hE hI hsz hLit hlit
  refine wpAny_pyIter_enum hE ?_
  have hh : A.handled = none := r.1
  have n84 : (84 : Nat) ≠ it := by lia
  have W84 := fun (B : Around) (hB : B.handled = none) => (WalksT.enumerateD (drawsTup (prog := PR) (w := w) (A := B.in1) hB it 84 n84 tabs84) (it + 1) (Nat.succ_ne_self it) (by simp; lia) (by simp)).toU
  have fresh : ∀ b : Nat, it ≤ b → (gh s.heap).get? b = none := fun b hb => Heap.get?_none_of_le (by rw [gh_size]; exact fk2 1 1 1 (.v 0) (.v 1) (.a (.v 0) (.n 1)) (.v 2) (.v 2) (.v 1) rfl [_, _, _] hLit hb)
  refine forE (g := gh s.heap) (KTurns.ofWalksU (W84 _ hh)) ?hLf ?hwr (news := [(l, PySem.W.listOf #[] 0), (100, tabObj ps)]) ?hnw ⟨⟨_, hE⟩, hI, h84C⟩ (FB.keeps hk) (NB.grown hk)
    (fun i m' nw => ∃ u ys c, m' = fmOv u (fmB (.ref l) (.int x tx)) ∧ nw = [(l, PySem.W.listOf ys.toArray c), (100, tabObj ps)] ∧ StrsAre ys ((List.range i).map (fmChar x))) ?h0 ?step ?done
  case hLf =>
    show (s.heap.objs.size : Nat) ∉ [it + 1, it, 84]
    simp; lia
  case hwr =>
    intro b hb
    have hb' : b = it + 1 ∨ b = it := by simpa using hb
    rcases hb' with rfl | rfl
    · exact fresh _ (Nat.le_succ _)
    · exact fresh _ (Nat.le_refl _)
  case hnw =>
    intro p hp
    rcases List.mem_cons.mp hp with rfl | hp
    · exact notin2 (Nat.ne_of_lt (Nat.lt_succ_of_lt hlit)) (Nat.ne_of_lt hlit)
    · rw [List.mem_singleton.mp hp]
      have h1 : (100:Nat) < it := Nat.lt_trans l100' hLit
      exact notin2 (Nat.ne_of_lt (Nat.lt_succ_of_lt h1)) (Nat.ne_of_lt h1)
  case h0 =>
    refine ⟨fun _ => none, [], 0, ?_, rfl, .nil⟩
    funext y
    show (if y = Str.ofString "perm" then some (Value.ref l) else List.lookup y [(Str.ofString "mode", Value.int x tx)]) = _
    rw [lookup1, fmOv, fmB]
    by_cases h1 : y = Str.ofString "index"
    · subst h1; rfl
    by_cases h2 : y = Str.ofString "table"
    · subst h2; rfl
    by_cases h3 : y = Str.ofString "bit"
    · subst h3; rfl
    by_cases h4 : y = Str.ofString "char"
    · subst h4; rfl
    simp only [if_neg h1, if_neg h2, if_neg h3, if_neg h4]
  case step =>
    intro i v m₁ news₁ h₂ tk₂ own hi hP hSt hJ ha ho1 ho2 F₂ N₂
    obtain ⟨u, ys, c, rfl, rfl, hys⟩ := hJ
    obtain ⟨Tp, vals, rfl, ⟨t, xv, hxv, rfl⟩, hT⟩ := hP
    obtain ⟨⟨old, hE2⟩, hI2, h842⟩ := hSt
    obtain ⟨eo, hiE⟩ : ∃ eo, h₂.get? (it + 1) = some eo := ⟨_, hE2⟩
    obtain ⟨oI, hoI, _⟩ := id hI2
    have mE := ho2 (it + 1) (by simp) (fresh _ (Nat.le_succ _)) _ hiE
    have mI := ho2 it (by simp) (fresh _ (Nat.le_refl _)) _ hoI
    have NL : News (gh s.heap) s.heap.objs.size h₂ [(it + 1, eo), (it, oI), (l, PySem.W.listOf ys.toArray c), (100, tabObj ps)] := fun p hp => by
      rcases List.mem_cons.mp hp with rfl | hp
      · exact N₂ _ (List.mem_append_left _ mE)
      rcases List.mem_cons.mp hp with rfl | hp
      · exact N₂ _ (List.mem_append_left _ mI)
      · exact N₂ _ (List.mem_append_right _ hp)
    obtain ⟨at_, ents, rfl, hta, hen, htd⟩ := tbl_ok X i xv (by simpa [tabs84] using hxv)
    refine assign_Tuple_tuple hh hT rfl rfl fun h₃ he => ?_
    have he' : ∀ b o, h₂.get? b = some o → h₃.get? b = some o := fun b o e => he b o (Nat.ne_of_lt (Heap.lt_size e)) e
    have F₃ := F₂.keeps he'
    have N₃ := NL.grown he'
    clear F₂ NL
    k_steps
    rename_i tkX hD hD' FD ND
    refine wpAny_For ?_
    walk1
    have fmE := fmIn0 (u := u) (m := fmB (.ref l) (.int x tx)) (vi := .int i t) (vt := .ref at_)
    rw [fmE] at FD
    have fin : ∀ h' ca chv tch vi vt u, Fr (gh s.heap) s.heap.objs.size h' (fmIn u vi vt (fmB (.ref l) (.int x tx))) →
        News (gh s.heap) s.heap.objs.size h' [(it + 1, eo), (it, oI), (l, PySem.W.listOf (ys.toArray.push (Value.str chv tch)) ca), (100, tabObj ps)] → fmChar x i = chv →
        ∃ m' news', Fr (gh s.heap) s.heap.objs.size h' m' ∧ News (gh s.heap) s.heap.objs.size h' (own ++ news') ∧ (∀ p ∈ news', p.1 ∉ [it + 1, it]) ∧
          ∃ u ys c, m' = fmOv u (fmB (.ref l) (.int x tx)) ∧ news' = [(l, PySem.W.listOf ys.toArray c), (100, tabObj ps)] ∧ StrsAre ys ((List.range (i + 1)).map (fmChar x)) := by
      intro h' ca chv tch vi vt u F N hch
      rw [fmIn2] at F
      refine ⟨_, [(l, PySem.W.listOf (ys ++ [Value.str chv tch]).toArray ca), (100, tabObj ps)], F, ?_, ?_, _, ys ++ [Value.str chv tch], ca, rfl, rfl, ?_⟩
      · intro p hp
        rcases List.mem_append.mp hp with hp | hp
        · obtain ⟨q1, q2, q3⟩ := ho1 p hp
          obtain ⟨pa, po⟩ := p
          have q1' : pa = it + 1 ∨ pa = it ∨ pa = 84 := by simpa using q1
          rcases q1' with rfl | rfl | rfl
          · have q2' : h₂.get? (it + 1) = some po := q2
            rw [hiE] at q2'; cases q2'
            exact N _ (.head _)
          · have q2' : h₂.get? pa = some po := q2
            rw [hoI] at q2'; cases q2'
            exact N _ (.tail _ (.head _))
          · obtain ⟨o, e84, _⟩ := h842
            have := X _ _ (show (kfr w.params).lookup 84 = some _ by k_is)
            rw [show (gh s.heap).get? 84 = none from q3] at this
            cases this
        · rcases List.mem_cons.mp hp with rfl | hp
          · have := N _ (.tail _ (.tail _ (.head _)))
            simpa using this
          · exact N _ (.tail _ (.tail _ (.tail _ hp)))
      · intro p hp
        rcases List.mem_cons.mp hp with rfl | hp
        · exact notin2 (Nat.ne_of_lt (Nat.lt_succ_of_lt hlit)) (Nat.ne_of_lt hlit)
        · rw [List.mem_singleton.mp hp]
          have h1 : (100:Nat) < it := Nat.lt_trans l100' hLit
          exact notin2 (Nat.ne_of_lt (Nat.lt_succ_of_lt h1)) (Nat.ne_of_lt h1)
      · rw [List.range_succ, List.map_append]
        show StrsAre _ (_ ++ [fmChar x i])
        rw [hch]
        exact snocS hys
    refine forTup (g := gh s.heap) hh hta FD ND
      (fun j m' nw => ∃ u', m' = fmIn u' (.int i t) (.ref at_) (fmB (.ref l) (.int x tx)) ∧ nw = [(it + 1, eo), (it, oI), (l, PySem.W.listOf ys.toArray c), (100, tabObj ps)] ∧ ∀ e ∈ ents.take j, fmC x i e.2.1 = false) ⟨u, rfl, rfl, by simp⟩ ?istep ?idone
    case istep =>
      intro j v m₁ news₁ h₄ tk₄ I oJ hj hv hJ haI haJ F₄ N₄
      obtain ⟨u', rfl, rfl, hno⟩ := hJ
      have hIl : l < I := haI _ (.tail _ (.tail _ (.head _)))
      have hI1 : it < I := haI _ (.tail _ (.head _))
      have hI2 : it + 1 < I := haI _ (.head _)
      have hI3 : 100 < I := haI _ (.tail _ (.tail _ (.tail _ (.head _))))
      obtain ⟨e, he, rfl⟩ : ∃ e, ents[j]? = some e ∧ v = .ref e.1 := by
        have hv' : (ents.map fun e => Value.ref e.1)[j]? = some v := by simpa using hv
        rw [List.getElem?_map] at hv'
        obtain ⟨e, e1, e2⟩ := Option.map_eq_some_iff.mp hv'
        exact ⟨e, e1, e2.symm⟩
      have hmem : e ∈ ents := List.mem_of_getElem? he
      have hT4 : h₄.IsTuple e.1 _ := let ⟨o, eo, q⟩ := hen e hmem; ⟨o, F₄.keep _ _ eo, q⟩
      refine assign_Tuple_tuple hh hT4 rfl rfl fun h₅ hx5 => ?_
      have hx5' : ∀ b o, h₄.get? b = some o → h₅.get? b = some o := fun b o e => hx5 b o (Nat.ne_of_lt (Heap.lt_size e)) e
      have F₅ := F₄.keeps hx5'
      have N₅ := N₄.grown hx5'
      clear F₄ N₄
      have hlen : ys.length < 10 := by have := lenS hys; simp [tabs84] at hi; simp at this; exact fk2 1 1 1 (.a (.v 0) (.n 1)) (.n 10) (.a (.v 1) (.n 1)) (.n 10) (.v 0) (.v 1) rfl [_, _] hi (Nat.le_of_eq this)
      have UP : ∀ v, Upd l (PySem.W.listOf ys.toArray c) (PySem.W.listOf (ys.toArray.push v) (c + 1)) [(I, oJ), (it + 1, eo), (it, oI), (l, PySem.W.listOf ys.toArray c), (100, tabObj ps)] [(I, oJ), (it + 1, eo), (it, oI), (l, PySem.W.listOf (ys.toArray.push v) (c + 1)), (100, tabObj ps)] := fun v =>
        .tail (Nat.ne_of_gt hIl) (.tail (Nat.ne_of_gt (Nat.lt_succ_of_lt hlit)) (.tail (Nat.ne_of_gt hlit) (.head fun p hp => by rw [List.mem_singleton.mp hp]; exact Nat.ne_of_lt l100)))
      k_steps
      · rename Fr _ _ _ _ => Fq; rename News _ _ _ _ => Nq; rename (i : Int) = 0 => hi0
        have Wq := W.mid Fq Nq V (by simp)
        refine c_ifmt Wq (r'.le (by decide)) ?_
        rintro tz s' ⟨h6, tk6, rfl, k6⟩
        have F6 := Fq.keeps k6
        have N6 := Nq.grown k6
        clear Fq Nq
        k_steps
        · rename Builtin.bitAnd x _ = _ => hq
          refine append_K (news' := _) F6 N6 (UP _) (fun h7 F7 N7 => ?_) (by simp only [List.size_toArray, PySem.sizeLine_eq]; exact fk1 1 1 (.v 0) (.n 16777216) (.a (.v 0) (.n 1)) (.n 10) rfl [_] hlen)
          clear F6 N6
          k_steps
          refine wpAny_execs_nil ?_
          rw [fmIn1] at F7
          obtain ⟨m', news', a, b, c', d⟩ := fin h7 _ _ _ _ _ _ F7 (fun p hp => N7 p (.tail _ hp)) (fm_hit htd he hno (by rw [fmC, if_pos (by lia), decide_eq_true hq]))
          exact ⟨h7, _, m', news', rfl, a, b, c', d⟩
        · rename Builtin.bitAnd x _ ≠ _ => hq
          rw [fmIn1] at F6
          refine ⟨_, _, _, _, rfl, F6, N6, fun p hp => by simpa using haJ p hp, _, rfl, rfl, fun e' he' => ?_⟩
          rw [List.take_add_one, he] at he'
          rcases List.mem_append.mp he' with q | q
          · exact hno e' q
          · rw [List.mem_singleton.mp q]
            exact (by rw [fmC, if_pos (by lia), decide_eq_false hq])
      · rename Fr _ _ _ _ => Fq; rename News _ _ _ _ => Nq; rename (i : Int) ≠ 0 => hi0; rename Builtin.bitAnd x _ = _ => hq
        refine append_K (news' := _) Fq Nq (UP _) (fun h7 F7 N7 => ?_) (by simp only [List.size_toArray, PySem.sizeLine_eq]; exact fk1 1 1 (.v 0) (.n 16777216) (.a (.v 0) (.n 1)) (.n 10) rfl [_] hlen)
        clear Fq Nq
        k_steps
        refine wpAny_execs_nil ?_
        rw [fmIn1] at F7
        obtain ⟨m', news', a, b, c', d⟩ := fin h7 _ _ _ _ _ _ F7 (fun p hp => N7 p (.tail _ hp)) (fm_hit htd he hno (by rw [fmC, if_neg (by lia), decide_eq_true hq]))
        exact ⟨h7, _, m', news', rfl, a, b, c', d⟩
      · rename Fr _ _ _ _ => Fq; rename News _ _ _ _ => Nq; rename (i : Int) ≠ 0 => hi0; rename Builtin.bitAnd x _ ≠ _ => hq
        rw [fmIn1] at Fq
        refine ⟨_, _, _, _, rfl, Fq, Nq, fun p hp => by simpa using haJ p hp, _, rfl, rfl, fun e' he' => ?_⟩
        rw [List.take_add_one, he] at he'
        rcases List.mem_append.mp he' with q | q
        · exact hno e' q
        · rw [List.mem_singleton.mp q]
          exact (by rw [fmC, if_neg (by lia), decide_eq_false hq])
    case idone =>
      intro h' tk' m' news' F' N' hJ
      obtain ⟨u', rfl, rfl, hno⟩ := hJ
      have hlen : ys.length < 10 := by have := lenS hys; simp [tabs84] at hi; simp at this; exact fk2 1 1 1 (.a (.v 0) (.n 1)) (.n 10) (.a (.v 1) (.n 1)) (.n 10) (.v 0) (.v 1) rfl [_, _] hi (Nat.le_of_eq this)
      have hno' : ∀ e ∈ ents, fmC x i e.2.1 = false := fun e he => hno e (by rw [List.take_of_length_le (by simp)]; exact he)
      have UP : ∀ v, Upd l (PySem.W.listOf ys.toArray c) (PySem.W.listOf (ys.toArray.push v) (c + 1)) [(it + 1, eo), (it, oI), (l, PySem.W.listOf ys.toArray c), (100, tabObj ps)] [(it + 1, eo), (it, oI), (l, PySem.W.listOf (ys.toArray.push v) (c + 1)), (100, tabObj ps)] := fun v =>
        .tail (Nat.ne_of_gt (Nat.lt_succ_of_lt hlit)) (.tail (Nat.ne_of_gt hlit) (.head fun p hp => by rw [List.mem_singleton.mp hp]; exact Nat.ne_of_lt l100))
      k_steps
      · rename Fr _ _ _ _ => Fq; rename News _ _ _ _ => Nq; rename (i : Int) = 0 => hi0
        refine append_K (news' := _) Fq Nq (UP _) (fun h7 F7 N7 => ?_) (by simp only [List.size_toArray, PySem.sizeLine_eq]; exact fk1 1 1 (.v 0) (.n 16777216) (.a (.v 0) (.n 1)) (.n 10) rfl [_] hlen)
        clear Fq Nq
        k_steps
        obtain ⟨m', news', a, b, c', d⟩ := fin h7 _ _ _ _ _ _ F7 N7 (by rw [fm_none htd hno', if_pos (by lia)])
        exact ⟨h7, _, m', news', rfl, a, b, c', d⟩
      · rename Fr _ _ _ _ => Fq; rename News _ _ _ _ => Nq; rename (i : Int) ≠ 0 => hi0
        refine append_K (news' := _) Fq Nq (UP _) (fun h7 F7 N7 => ?_) (by simp only [List.size_toArray, PySem.sizeLine_eq]; exact fk1 1 1 (.v 0) (.n 16777216) (.a (.v 0) (.n 1)) (.n 10) rfl [_] hlen)
        clear Fq Nq
        k_steps
        obtain ⟨m', news', a, b, c', d⟩ := fin h7 _ _ _ _ _ _ F7 N7 (by rw [fm_none htd hno', if_neg (by lia)])
        exact ⟨h7, _, m', news', rfl, a, b, c', d⟩
  case done =>
    intro h' tk' m' news' F' N' ha hJ
    obtain ⟨u, ys, c, rfl, rfl, hys⟩ := hJ
    refine wpAny_execs_nil ?_
    dsimp only
    k_steps
    have hl' : h'.IsList l ys.toArray := News.isList N' (.head _)
    refine join_listW (ys := (List.range 10).map (fmChar x)) hl' (by simpa [tabs84] using hys) (by decide) ?_ ?_
    · have := fm_sum (x := x) (List.range 10)
      simp only [List.length_map, List.length_range] at this ⊢
      exact fk1 1 1 (.a (.v 0) (.n 10)) (.n 1048576) (.v 0) (.n 10) rfl [_] this
    · intro t' k
      have z := leave0 (tk := k) F' N' h100 (.tail _ (.head _))
      exact hQ t' _ z
end
end Mine
end
section
open PySem PySem.W PySem.Calls PyProof.Rows
set_option Elab.async false
set_option maxRecDepth 100000
set_option maxHeartbeats 8000000
set_option linter.unusedVariables false
namespace Mine
theorem fresh_of {h h' : Heap} {L l : Addr} {o : Obj} {news : List (Addr × Obj)} (N : News (gh h) L h' news) (hm : (l, o) ∈ news) (h1 : l ≠ 100) : h.get? l = none := by
  have q := (N _ hm).2.2
  cases e : h.get? l with
  | none => rfl
  | some o' =>
    rw [gh_ne e h1] at q
    cases q
section
variable {w : World} {loose : List Str} {mean : ExcName → Option Value} {mg mb : Str → Option Value} {A : Around} {s : Shared} {Q E : Value → Shared → Prop}

theorem c_things {f : Addr} {md sz : Int} {t1 t2 : Tok} {pl : Value} {of : Obj} (W : Wd w loose mean mg mb s.heap) (r : Rm A 6) (hf0 : s.heap.get? f = some (PySem.W.listOf #[.int md t1, .int sz t2, pl] 0)) (hf1 : f ≠ 100)
    (hQ : ∀ l a b c d s', St0 s s' → s'.heap.get? l = some (PySem.W.listOf #[.int (Builtin.bitAnd md 61440) a, .int (Builtin.bitAnd md 4095) b, .str (fmText md) c, .int sz d] 0) → s.heap.get? l = none → Q (.ref l) s') : wpAny (model PR w) A (call (.ref 98) [.ref f]) Q E s := by
  have X := W.X
  have T := W.T
  obtain ⟨Ah, Ad, Af, Au⟩ := A
  obtain rfl : Ah = none := r.1
  refine enter W r (X _ _ (by k_is)) rfl (codeRec_of X (by k_is)) (BindsTo.of_eq rfl) (locs rfl) ?_
  intro ps h₁ tk V h100 r' x₁ F N
  have hf : h₁.IsList f #[.int md t1, .int sz t2, pl] := ⟨_, F.keep _ _ (gh_ne hf0 hf1), rfl, _, rfl⟩
  k_steps
  (rename Fr _ _ _ _ => Fq; rename News _ _ _ _ => Nq; refine c_ifmt (W.mid Fq Nq V (by simp)) (r'.le (by decide)) ?_; rintro tq sq ⟨hq, tkq, rfl, kq⟩; have Fq' := Fq.keeps kq; have Nq' := Nq.grown kq; clear Fq Nq kq; dsimp only)
  k_steps
  (rename Fr _ _ _ _ => Fq; rename News _ _ _ _ => Nq; refine c_imode (W.mid Fq Nq V (by simp)) (r'.le (by decide)) ?_; rintro tq sq ⟨hq, tkq, rfl, kq⟩; have Fq' := Fq.keeps kq; have Nq' := Nq.grown kq; clear Fq Nq kq; dsimp only)
  k_steps
  (rename Fr _ _ _ _ => Fq; rename News _ _ _ _ => Nq; refine c_filemode (W.mid Fq Nq V (by simp)) (r'.le (by decide)) ?_; rintro tq sq ⟨hq, tkq, rfl, kq⟩; have Fq' := Fq.keeps kq; have Nq' := Nq.grown kq; clear Fq Nq kq; dsimp only)
  k_steps
  rename Fr _ _ _ _ => Fq; rename News _ _ _ _ => Nq; rename (100 : Nat) < _ => hl
  exact hQ _ _ _ _ _ _ (leave0 Fq Nq h100 (by simp)) (Nq _ (.head _)).1 (fresh_of Nq (.head _) (Nat.ne_of_gt hl))

end
end Mine
end
section
open PySem PySem.W PySem.Calls PyProof.Rows
set_option Elab.async false
set_option maxRecDepth 100000
set_option maxHeartbeats 8000000
set_option linter.unusedVariables false
namespace Mine
section
variable {w : World} {loose : List Str} {mean : ExcName → Option Value} {mg mb : Str → Option Value} {A : Around} {s : Shared} {Q E : Value → Shared → Prop}
/-- enter a def with cells of its own -/
theorem enterC {name qual : Str} {params : Arguments} {body : List Stmt} {a : Stmt} {l : List Stmt} {scope : Scope} {dV kV doc pm cdv ct : Value} {an : Option Addr} {fo : Obj} {f : Addr} {args : List Value} {binds : List (Str × Value)} {n : Nat}
    (W : Wd w loose mean mg mb s.heap) (r : Rm A (n + 1)) (ho : (gh s.heap).get? f = some fo) (hd : fo.data = .func (fnX name qual params body scope [] dV kV doc pm an cdv ct)) (hcd : (gh s.heap).CodeRec cdv qual)
    (hbind : BindsTo s (fnX name qual params body scope [] dV kV doc pm an cdv ct) ⟨args, []⟩ binds)
    (hkind : (binds.all fun y => scope.names.lookup y.1 == some .local || scope.names.lookup y.1 == some .cell) = true)
    (hnd : ((cellsFrom 0 scope.names []).map (·.1)).Nodup)
    (h : ∀ ps L h₁ tk cells, L = s.heap.objs.size → TabV s.heap ps → s.heap.get? 100 = some (tabObj ps) → (100 : Nat) < L → Rm (A.deeper (envOfC qual scope L f cdv)) n → Ext1 s.heap h₁ →
      Fr (gh s.heap) L h₁ (bindL (envOfC qual scope L f cdv).kindOf binds fun _ => none) → News (gh s.heap) L h₁ (cells ++ [(100, tabObj ps)]) → CellsAre (bindC (envOfC qual scope L f cdv).kindOf binds fun _ => none) (cellsFrom (L + 1) scope.names []) cells →
      wpAny (model PR w) (A.deeper (envOfC qual scope L f cdv)) (execs (a :: l) (envOfC qual scope L f cdv)) (fun fl s' => Q (retv fl) s') (fun _ _ => False) { s with heap := h₁, toks := tk })
    (hb : body = a :: l := by rfl) (hco : scope.isCoroutine = false := by rfl) (hgen : scope.isGenerator = false := by rfl) (hk : scope.kind = .function := by rfl) :
    wpAny (model PR w) A (call (.ref f) args) Q E s := by
  subst hb
  obtain ⟨ps, h100, V⟩ := W.tab
  have hcd' : s.heap.CodeRec cdv qual := by
    obtain ⟨c, oc, vs, tq, hc, hoc, hr⟩ := hcd
    exact ⟨c, oc, vs, tq, hc, of_gh hoc, hr⟩
  refine wpAny_call (codeAny_call_function r.depth (of_gh ho) hd hco hgen rfl hcd' (hbind _ _ _ _ ?_))
  refine wpAny_newFunctionEnv_cells hk (kindsX hkind _) fun env' he s' x => ?_
  subst he
  refine ⟨(W.T.nolimit.keeps fun b o e => of_gh e).keeps x.toInCall.keep, codeAny_func ?_⟩
  obtain ⟨h₁, tk, rfl, _⟩ := x.done
  have hk₁ := x.toInCall.keep
  obtain ⟨cells, NC, Y⟩ := Cl.news (h₀ := s.heap) (Nat.le_refl _) fun n c hm => ⟨x.cell n c (lookup_of_mem_nodup (cellsFrom_names scope.names 0 (s.heap.objs.size + 1) [] [] rfl ▸ hnd) hm), x.above n c hm⟩
  refine wpAny_mono (h ps s.heap.objs.size h₁ tk cells rfl V h100 (Heap.lt_size h100) (r.deeper _) (Ext1.of hk₁) ⟨x.toInCall.ns, fun b o e => hk₁ b o (of_gh e), Nat.le_of_eq gh_size⟩ (fun p hp => ?_) Y) (fun fl s' hl => ?_) fun _ _ y => y.elim
  · rcases List.mem_append.mp hp with hp | hp
    · refine ⟨(NC p hp).1, (NC p hp).2.1, ?_⟩
      cases q : (gh s.heap).get? p.1 with
      | none => rfl
      | some o => have := of_gh q; rw [(NC p hp).2.2] at this; cases this
    · rw [List.mem_singleton.mp hp]
      exact ⟨hk₁ _ _ h100, Nat.ne_of_lt (Heap.lt_size h100), gh_100⟩
  · cases fl <;> exact hl
end
end Mine
end
section
open PySem PySem.W PySem.Calls PyProof.Rows
set_option Elab.async false
set_option maxRecDepth 100000
set_option maxHeartbeats 8000000
set_option linter.unusedVariables false
namespace Mine
noncomputable def Twin (a b : Shared) : Prop := a.gens = b.gens ∧ a.drawn = b.drawn ∧ a.os = b.os
section
variable {w : World} {A : Around} {s : Shared} {h₀ : Heap} {L : Addr} {m : Str → Option Value} {env : Env} {elt : Expr} {x : Str} {scope : Scope} {cl : List (Str × Addr)} {S : List (Addr × Obj) → Prop} {P : Nat → Value → Prop} {Fin : List Value → List (Addr × Obj) → Prop}
end
/-- what a call has laid anew -/
noncomputable def New (s s' : Shared) (objs : List (Addr × Obj)) : Prop := ∀ p ∈ objs, s'.heap.get? p.1 = some p.2 ∧ s.heap.get? p.1 = none
/-- the wishes -/
noncomputable def InR (a : Int) : Prop := 0 ≤ a ∧ a < 4
inductive WAre (news : List (Addr × Obj)) : List Value → List (Int × Bool) → Prop
  | nil : WAre news [] []
  | cons {l : Addr} {a : Int} {t : Tok} {b : Bool} {vs ws} : (l, PySem.W.listOf #[.int a t, .bool b] 0) ∈ news → l ≠ 100 → InR a → WAre news vs ws → WAre news (.ref l :: vs) ((a, b) :: ws)
end Mine
end
section
open PySem PySem.W PySem.Calls PyProof.Rows
set_option Elab.async false
set_option maxRecDepth 100000
set_option maxHeartbeats 8000000
set_option linter.unusedVariables false
namespace Mine
section
variable {w : World} {loose : List Str} {mean : ExcName → Option Value} {mg mb : Str → Option Value} {A : Around} {s : Shared} {Q E : Value → Shared → Prop}
/-- enter a lambda with no cells of its own -/
theorem enterL {name qual : Str} {params : Arguments} {body : Expr} {scope : Scope} {cl : List (Str × Addr)} {pm ct : Value} {c' : Addr} {fo : Obj} {f : Addr} {args : List Value} {binds : List (Str × Value)} {n : Nat}
    (W : Wd w loose mean mg mb s.heap) (r : Rm A (n + 1)) (ho : s.heap.get? f = some fo) (hd : fo.data = .func (kla_fn name qual params body scope cl pm (.ref c') ct)) (hcd : s.heap.CodeRec (.ref c') qual)
    (hbind : bindArgs (kla_fn name qual params body scope cl pm (.ref c') ct) ⟨args, []⟩ = pure binds) (hloc : ∀ y ∈ binds, scope.names.lookup y.1 = some .local)
    (h : ∀ ps h₁ tk, TabV s.heap ps → s.heap.get? 100 = some (tabObj ps) → (100 : Nat) < s.heap.objs.size → Rm (A.deeper (envX qual scope s.heap.objs.size f (.ref c') cl)) n → Ext1 s.heap h₁ → (∀ b o, s.heap.get? b = some o → h₁.get? b = some o) → Fr (gh s.heap) s.heap.objs.size h₁ (fun y => binds.reverse.lookup y) → News (gh s.heap) s.heap.objs.size h₁ [(100, tabObj ps)] →
      wpAny (model PR w) (A.deeper (envX qual scope s.heap.objs.size f (.ref c') cl)) (eval body (envX qual scope s.heap.objs.size f (.ref c') cl)) (fun v s' => Q v s') (fun _ _ => False) { s with heap := h₁, toks := tk })
    (hcell : ∀ x ∈ scope.names, x.2 ≠ .cell := by decide) (hco : scope.isCoroutine = false := by rfl) (hgen : scope.isGenerator = false := by rfl) (hk : scope.kind = .function := by rfl) :
    wpAny (model PR w) A (call (.ref f) args) Q E s := by
  obtain ⟨ps, h100, V⟩ := W.tab
  refine wpAny_call (kla_callFunE r.depth ho hd hco hgen rfl hcd ?_)
  rw [hbind]
  refine wpAny_pure (wpAny_newFunctionEnv hcell hloc (fun h₁ hns hsb => ⟨((W.T.nolimit).keeps fun b o e => of_gh e).fresh _ hsb, ?_⟩) hk)
  show codeAny _ _ (.expr body (envX qual scope s.heap.objs.size f (.ref c') cl)) _ _
  have hk₁ : ∀ b o, s.heap.get? b = some o → h₁.get? b = some o := fun b o e => hsb.extBut b o (Nat.ne_of_lt (Heap.lt_size e)) (Heap.get?_push_of_some _ e)
  refine kla_codeExpr (wpAny_mono (h ps h₁ _ V h100 (Heap.lt_size h100) (r.deeper _) (Ext1.of hk₁) hk₁ ⟨hns, fun b o e => hk₁ b o (of_gh e), Nat.le_of_eq gh_size⟩ ?_) (fun v s' hl => hl) fun _ _ y => y.elim)
  intro p hp
  rw [List.mem_singleton.mp hp]
  exact ⟨hk₁ _ _ h100, Nat.ne_of_lt (Heap.lt_size h100), gh_100⟩
end
end Mine
end
section
open PySem PySem.W PySem.Calls PyProof.Rows
set_option Elab.async false
set_option maxRecDepth 100000
set_option maxHeartbeats 8000000
set_option linter.unusedVariables false
namespace Mine
theorem call_iterL {w : World} {A : Around} {s : Shared} {Q E : Value → Shared → Prop} {g : Heap} {L d : Addr} {m : Str → Option Value} {news : List (Addr × Obj)} {items : Array Value} (F : Fr g L s.heap m) (N : News g L s.heap news) (hl : s.heap.IsList d items)
    (h : ∀ I h', Fr g L h' m → News g L h' ((I, { cls := .type "list_iterator", data := .fields #[.ref d, .int 0 0] }) :: news) → (∀ p ∈ news, p.1 < I) → h'.IsList d items → d < I → L < I → Q (.ref I) { s with heap := h' }) :
    wpAny (model PR w) A (call (.builtin "iter") [.ref d]) Q E s := by
  refine call_function_entry (by decide +kernel) (by decide +kernel) kdk_entry_iter (kdk_args_iter _) ?_
  unfold Builtin.«iter»
  refine wpAny_bind (m := someArgs "iter" 1 2 _) (wpAny_of_eq (a := [Value.ref d]) (by first | rfl | kernel_rfl!) ?_)
  show wpAny _ _ (pyIter (.ref d) >>= _) _ _ _
  refine wpAny_bind (wpAny_pyIter_list hl ?_)
  exact wpAny_pure ⟨_, rfl, h _ _ (F.push _) (News.push F N _ rfl) (fun q hq => Heap.lt_size (N q hq).1) (hl.push _) (let ⟨_, e, _⟩ := hl; Heap.lt_size e) F.ns.lt⟩
noncomputable def FnAt (f : Addr) (h : Heap) : Prop := ∃ o fd, h.get? f = some o ∧ o.data = .func fd
noncomputable def red (xs : List Int) : Int := xs.foldl (fun a b => if a = 0 then b else a) 0
theorem ints_at : ∀ {vs xs}, IntsAre vs xs → ∀ {i : Nat} {v}, vs[i]? = some v → ∃ a t, v = Value.int a t ∧ xs[i]? = some a
  | _, _, .nil, _, _, h => by simp at h
  | _, _, .cons y u r, 0, v, h => by simp at h; exact ⟨y, u, h.symm, by simp⟩
  | _, _, .cons y u r, i + 1, v, h => by
    simp at h
    obtain ⟨a, t, e, m⟩ := ints_at r h
    exact ⟨a, t, e, by simpa using m⟩
theorem ints_len' : ∀ {vs xs}, IntsAre vs xs → vs.length = xs.length
  | _, _, .nil => rfl
  | _, _, .cons y u r => congrArg (· + 1) (ints_len' r)
theorem red_succ {xs : List Int} {i : Nat} {a : Int} (h : xs[i]? = some a) : red (xs.take (i + 1)) = if red (xs.take i) = 0 then a else red (xs.take i) := by
  unfold red
  rw [List.take_add_one, h, List.foldl_append]
  rfl
noncomputable def rdM (vv : Value) (f : Addr) (u : Str → Option Value) : Str → Option Value := fun y => if y = Str.ofString "value" then some vv else if y = Str.ofString "element" then u y else if y = Str.ofString "function" then some (.ref f) else u y
theorem rdM_fr {g h : Heap} {L : Addr} {m : Str → Option Value} {vv : Value} {f : Addr} (F : Fr g L h m) (h1 : m (Str.ofString "value") = some vv) (h2 : m (Str.ofString "function") = some (.ref f)) : Fr g L h (rdM vv f m) := by
  have e : rdM vv f m = m := by
    funext y
    unfold rdM
    by_cases q1 : y = Str.ofString "value"
    · rw [if_pos q1, q1, h1]
    · rw [if_neg q1]
      by_cases q2 : y = Str.ofString "element"
      · rw [if_pos q2]
      · rw [if_neg q2]
        by_cases q3 : y = Str.ofString "function"
        · rw [if_pos q3, q3, h2]
        · rw [if_neg q3]
  rw [e]
  exact F
theorem rdM_set {vv v2 ve : Value} {f : Addr} {u : Str → Option Value} : (fun y => if y = Str.ofString "value" then some v2 else if y = Str.ofString "element" then some ve else rdM vv f u y) = rdM v2 f (fun y => if y = Str.ofString "element" then some ve else u y) := by
  funext y
  by_cases h1 : y = Str.ofString "value"
  · subst h1; rfl
  by_cases h2 : y = Str.ofString "element"
  · subst h2; rfl
  simp only [rdM, if_neg h1, if_neg h2]
section
variable {w : World} {loose : List Str} {mean : ExcName → Option Value} {mg mb : Str → Option Value} {A : Around} {s : Shared} {Q E : Value → Shared → Prop}
theorem c_reduce {f ls : Addr} {t0 : Tok} {vs : List Value} {xs : List Int} {n : Nat} (W : Wd w loose mean mg mb s.heap) (r : Rm A 6) (hls : s.heap.get? ls = some (PySem.W.listOf vs.toArray n)) (hl1 : ls ≠ 100) (hvs : IntsAre vs xs) (hfo : FnAt f s.heap)
    (hf : ∀ (B : Around) (s' : Shared) a b ta tb, Rm B 3 → St0 s s' → wpAny (model PR w) B (call (.ref f) [.int a ta, .int b tb]) (fun v s'' => St0 s' s'' ∧ ∃ t, v = .int (if a = 0 then b else a) t) (fun _ _ => False) s')
    (hQ : ∀ t s', St0 s s' → Q (.int (red xs) t) s') : wpAny (model PR w) A (call (.ref 37) [.ref f, .ref ls, .int 0 t0]) Q E s := by
  have X := W.X
  have T := W.T
  obtain ⟨Ah, Ad, Af, Ag, Au⟩ := A
  obtain rfl : Ah = none := r.1
  have X' : (kfr w.params).In s.heap := fun b o e => of_gh (X b o e)
  refine enter W r (X _ _ (by k_is)) rfl (codeRec_of X (by k_is)) (kp_binds X' (fun S => rfl)) (locs rfl) ?_
  intro ps h₁ tk V h100 r' x₁ F N
  have hls1 : h₁.IsList ls vs.toArray := ⟨_, x₁ _ _ hl1 hls, rfl, _, rfl⟩
  (repeat (((fail_if_success (with_reducible show wpAny _ _ (exec (Stmt.For _ _ _ _ _) _) _ _ _))); walk1))
  refine call_iterL F N hls1 fun I h₂ F₂ N₂ lI hls2 hdI hLI => ?_
  have l100 : 100 < I := lI _ (.head _)
  clear F N
  dsimp only
  (repeat (((fail_if_success (with_reducible show wpAny _ _ (exec (Stmt.For _ _ _ _ _) _) _ _ _))); walk1))
  refine wpAny_is_other rfl (by intro q; cases q) ?_
  (repeat (((fail_if_success (with_reducible show wpAny _ _ (exec (Stmt.For _ _ _ _ _) _) _ _ _))); walk1))
  rename Fr _ _ _ _ => Fz; rename News _ _ _ _ => Nz
  refine wpAny_For ?_
  walk1
  rename Heap => hZ
  have hit : hZ.IsListIter I ls 0 := ⟨_, (Nz _ (.head _)).1, rfl, rfl⟩
  refine wpAny_pyIter_listiter hit ?_
  have hlsg : (gh s.heap).get? ls = some _ := gh_ne hls hl1
  have Nz2 : News (gh s.heap) s.heap.objs.size _ [(100, tabObj ps)] := fun p hp => Nz p (.tail _ hp)
  have hlsz := Fz.keep _ _ hlsg
  have Fz2 := rdM_fr (vv := .int 0 t0) (f := f) Fz rfl rfl
  refine forT (g := gh s.heap) (its := vs.toArray) (Walks.list rfl I ls (Nat.ne_of_lt hdI) vs.toArray) (fun _ _ _ _ _ _ q => wpAny_pure q) (fun _ _ st => let ⟨o, e, _⟩ := st.1; ⟨o, e⟩) hlsg (Nz _ (.head _)).2.2 (Nat.ne_of_lt hLI) (fun p hp => by rw [List.mem_singleton.mp hp]; exact Nat.ne_of_lt l100) ⟨hit, ⟨_, hlsz, rfl, _, rfl⟩⟩ Fz2 Nz2
    (fun i m' nw => ∃ t u, m' = rdM (.int (red (xs.take i)) t) f u ∧ nw = [(100, tabObj ps)]) ⟨t0, _, rfl, rfl⟩ ?step ?done
  case step =>
    intro i v m₁ news₁ h₃ tk₃ oI hi hv hJ ha F₃ N₃
    obtain ⟨t, u, rfl, rfl⟩ := hJ
    obtain ⟨a, ta, rfl, hx⟩ := ints_at hvs (by simpa using hv)
    clear Fz Fz2 Nz Nz2 hit hlsz hls2 hls1
    have l2 : 100 ≠ I := Nat.ne_of_lt l100
    k_steps
    rename Fr _ _ _ _ => Fq; rename News _ _ _ _ => Nq; rename_i tkq hq
    have st : ∀ z, St0 s { s with heap := hq, toks := z } := fun z => leave0 Fq Nq h100 (.tail _ (.head _))
    obtain ⟨of, fd, hfo, hfd⟩ := hfo
    refine callWith_function_kw (o := of) (fd := fd) (Calls.evalArgs_plain (Calls.spliced_cons ?_))
    refine wpAny_Name (wpAny_loadName_local rfl rfl Fq.ns rfl ?_)
    refine Calls.spliced_cons ?_
    refine wpAny_Name (wpAny_loadName_local rfl rfl Fq.ns rfl ?_)
    refine Calls.spliced_nil ⟨⟨?_, hfd⟩, ?_⟩
    · obtain ⟨_, _, e0, k0⟩ := st 0
      cases e0
      exact k0 _ _ hfo
    · refine wpAny_mono (hf _ _ _ _ _ _ (r'.le (by decide)) (st _)) ?_ fun _ _ e => e.elim
      rintro v s'' ⟨⟨h₅, tk₅, rfl, k₅⟩, t5, rfl⟩
      have Fs := Fq.keeps k₅
      have Ns := Nq.grown k₅
      clear Fq Nq
      dsimp only
      k_steps
      rename Fr _ _ _ _ => Fy; rename News _ _ _ _ => Ny
      refine ⟨_, _, _, _, rfl, Fy, Ny, fun p hp => by rw [List.mem_singleton.mp hp]; simpa using l2, t5, (fun y => if y = Str.ofString "element" then some (Value.int a ta) else u y), ?_, rfl⟩
      rw [red_succ hx]
      exact rdM_set
  case done =>
    intro h' tk' m' news' F' N' ha hJ
    obtain ⟨t, u, rfl, rfl⟩ := hJ
    k_steps
    have e : List.take vs.toArray.size xs = xs := by rw [List.size_toArray, ints_len' hvs]; exact List.take_length
    rw [e]
    rename Fr _ _ _ _ => Fy; rename News _ _ _ _ => Ny
    exact hQ _ _ (leave0 Fy Ny h100 (by simp))
end
end Mine
end
section
open PySem PySem.W PySem.Calls PyProof.Rows
set_option Elab.async false
set_option maxRecDepth 100000
set_option maxHeartbeats 8000000
set_option linter.unusedVariables false
namespace Mine
section
variable {w : World} {A : Around} {E : Value → Shared → Prop} {s : Shared}
/-- one comprehension's loop, any target, any tests -/
theorem loopG {elt target iter : Expr} {ifs : List Expr} {scope : Scope} {pos : Pos} {it acc : Value} {env : Env} {R : Result → Shared → Prop} (I : Nat → Shared → Prop)
    (turn : ∀ n s, I n s → wpAny (model PR w) A (pyNext it) (fun r s₁ => match r with
      | none => R (.ok .next) s₁
      | some v => wpAny (model PR w) A (letOwnedTupleGo target it v) (fun _ s₁' => wpAny (model PR w) A (assign target env v) (fun _ s₂ =>
          wpAny (model PR w) A (forIn ifs true fun c r => if r = true then do let ok ← isTrue c env (eval c env); pure (ForInStep.yield ok) else pure (ForInStep.yield r)) (fun ok s₃ =>
            if ok = true then wpAny (model PR w) A (eval elt env) (fun x s₄ =>
              wpAny (model PR w) A (call (.builtin "list.append") [acc, x]) (fun _ s₅ => ∃ m, m < n ∧ I m s₅) (fun _ _ => False) s₄) (fun _ _ => False) s₃
            else ∃ m, m < n ∧ I m s₃) (fun _ _ => False) s₂) (fun _ _ => False) s₁') (fun _ _ => False) s₁) (fun _ _ => False) s)
    (n : Nat) (h : I n s) : codeAny (model PR w) A (.compLoop (.ListComp elt [⟨target, iter, ifs, 0⟩] scope pos) 0 it acc env) R s := by
  refine codeAny_loop rfl I (fun n s hI => ?_) n h
  show wpAny _ A ((compTurn (.ListComp elt [⟨target, iter, ifs, 0⟩] scope pos) 0 it acc env).onRaise (fun x => do noteFrame x env; theTreesLotGoes x)) _ _ s
  refine wpAny_noted ?_
  rw [compTurn_list]
  refine wpAny_bind (wpAny_standAt (wpAny_bind (wpAny_mono (turn n s hI) (fun r s₁ h₁ => ?_) fun _ _ h' => h'.elim)))
  cases r with
  | none => exact wpAny_pure h₁
  | some v =>
    refine wpAny_bind (wpAny_mono h₁ (fun _ s₁' h₁' => ?_) fun _ _ h' => h'.elim)
    refine wpAny_bind (wpAny_mono h₁' (fun _ s₂ h₂ => wpAny_bind (wpAny_mono h₂ (fun ok s₃ h₃ => ?_) fun _ _ h' => h'.elim)) fun _ _ h' => h'.elim)
    cases ok with
    | true => exact wpAny_bind (wpAny_bind (wpAny_mono h₃ (fun x s₄ h₄ => wpAny_bind (wpAny_mono h₄ (fun _ s₅ h₅ => wpAny_pure (wpAny_pure ⟨rfl, h₅⟩)) fun _ _ h' => h'.elim)) fun _ _ h' => h'.elim))
    | false => exact wpAny_bind (wpAny_pure (wpAny_pure ⟨rfl, h₃⟩))
end
/-- how a turn ends: all stands but the comprehension's own names -/
noncomputable def TurnC (s : Shared) (C : Addr) (h : Heap) (K : Heap → Prop) (s' : Shared) : Prop := ∃ h' tk' m', s' = { s with heap := h', toks := tk' } ∧ (∀ b o, b ≠ C → h.get? b = some o → h'.get? b = some o) ∧ h'.Ns C m' ∧ K h'
section
variable {w : World} {A : Around} {E : Value → Shared → Prop} {s : Shared}
theorem blockG {elt target iter : Expr} {ifs : List Expr} {scope : Scope} {cl : List (Str × Addr)} {pos : Pos} {env : Env} {I : Addr} {fp wr : List Addr} {n : Nat} {P Md : Nat → Value → Heap → Prop} {St : Nat → Heap → Prop} {RR : Value → Addr → Result → Shared → Prop}
    (J : List Addr → Nat → List Value → Heap → Prop) (W : KTurns PR w A target I fp wr n P Md St)
    (hself : ∀ (s : Shared) (Q : Value → Shared → Prop) (E : Value → Shared → Prop), St 0 s.heap → Q (.ref I) s → wpAny (model PR w) A (pyIter (.ref I)) Q E s)
    (hsz : n ≤ sizeLine) (hfp : ∀ b ∈ fp, b < s.heap.objs.size) (hst : St 0 s.heap)
    (hcell : ∀ y ∈ scope.names, y.2 ≠ .cell) (hkind : scope.kind = .function)
    (hmono : ∀ av i ys h h', J av i ys h → (∀ b o, b ∉ av → h.get? b = some o → h'.get? b = some o) → J av i ys h')
    (h0 : ∀ D C, s.heap.get? D = none → s.heap.get? C = none → J (D :: C :: wr) 0 [] s.heap)
    (step : ∀ D C i ys v h tk m, i < n → P i v h → J (D :: C :: wr) i ys h → (∀ b o, b ∉ wr → s.heap.get? b = some o → h.get? b = some o) → h.PlainList D ys.toArray → h.Ns C m → D ≠ C → s.heap.get? D = none → s.heap.get? C = none →
      wpAny (model PR w) A (assign target (compEnvC scope cl C env) v) (fun _ s₂ =>
          wpAny (model PR w) A (forIn ifs true fun c r => if r = true then do let ok ← isTrue c (compEnvC scope cl C env) (eval c (compEnvC scope cl C env)); pure (ForInStep.yield ok) else pure (ForInStep.yield r)) (fun ok s₃ =>
            if ok = true then wpAny (model PR w) A (eval elt (compEnvC scope cl C env)) (fun y s₄ => TurnC s C h (J (D :: C :: wr) (i + 1) (ys ++ [y])) s₄) (fun _ _ => False) s₃
            else TurnC s C h (J (D :: C :: wr) (i + 1) ys) s₃) (fun _ _ => False) s₂) (fun _ _ => False) { s with heap := h, toks := tk })
    (hfin : ∀ D C ys h tk m, J (D :: C :: wr) n ys h → (∀ b o, b ∉ wr → s.heap.get? b = some o → h.get? b = some o) → h.PlainList D ys.toArray → h.Ns C m → D ≠ C → s.heap.get? D = none → s.heap.get? C = none → RR (.ref D) C (.ok .next) { s with heap := h, toks := tk }) :
    wpAny (model PR w) A (newList []) (fun acc s₃ => wpAny (model PR w) A (newFunctionEnv scope env.globals cl [] env.qual none .none (some env)) (fun cenv s₄ =>
      codeAny (model PR w) A (.compStart (.ListComp elt [⟨target, iter, ifs, 0⟩] scope pos) 0 (.ref I) acc { cenv with scope := relabel scope env }) (RR acc cenv.locals) s₄) E s₃) E s := by
  refine wpAny_newObj_type (wpAny_newFunctionEnv hcell (by intro y hy; simp at hy) (fun h₁ hns₁ hsb₁ => ?_) hkind)
  dsimp only at hns₁ hsb₁ ⊢
  generalize hH2 : s.heap.push { cls := .type "list", dict := none, data := .seq ([] : List Value).toArray } = H2 at hns₁ hsb₁ ⊢
  have hC : H2.objs.size = s.heap.objs.size + 1 := by rw [← hH2, Heap.size_push]
  generalize hDe : s.heap.objs.size = D at *
  generalize hCe : H2.objs.size = C at *
  have DC : D ≠ C := by rw [hC]; exact Nat.ne_of_lt (Nat.lt_succ_self _)
  have D0 : s.heap.get? D = none := Heap.get?_none_of_le (Nat.le_of_eq hDe)
  have C0 : s.heap.get? C = none := Heap.get?_none_of_le (by rw [hDe, hC]; exact Nat.le_succ _)
  have fD : D ∉ fp := fun hm => absurd (hfp D hm) (Nat.lt_irrefl _)
  have fC : C ∉ fp := fun hm => by have := hfp C hm; rw [hC] at this; exact absurd (Nat.lt_of_succ_lt this) (Nat.lt_irrefl _)
  have lt : ∀ b o, s.heap.get? b = some o → b < D := fun b o e => hDe ▸ Heap.lt_size e
  have old : ∀ b o, s.heap.get? b = some o → h₁.get? b = some o := fun b o e => by
    have l := lt b o e
    refine hsb₁.extBut b o (by rw [hC]; exact Nat.ne_of_lt (Nat.lt_succ_of_lt l)) (Heap.get?_push_of_some _ ?_)
    rw [← hH2]
    exact Heap.get?_push_of_some _ e
  have hD1 : h₁.PlainList D ([] : List Value).toArray := by
    refine ⟨0, ?_⟩
    refine hsb₁.extBut D _ DC (Heap.get?_push_of_some _ ?_)
    rw [← hH2, ← hDe]
    exact Heap.get?_push_size _ rfl
  have st1 : St 0 h₁ := W.frame 0 _ _ hst fun b hb o e => old b o e
  have loop : ∀ s₃ : Shared, s₃ = { s with heap := h₁, toks := s.toks + ([] : List (Str × Value)).length } →
      codeAny (model PR w) A (.compLoop (.ListComp elt [⟨target, iter, ifs, 0⟩] scope pos) 0 (.ref I) (.ref D) (compEnvC scope cl C env)) (RR (.ref D) C) s₃ := by
    rintro s₃ rfl
    refine loopG (fun k s' => ∃ h' tk i ys m', s' = { s with heap := h', toks := tk } ∧ i ≤ n ∧ k = n + 1 - i ∧ ys.length ≤ i ∧ St i h' ∧ (∀ b o, b ∉ wr → s.heap.get? b = some o → h'.get? b = some o) ∧ h'.PlainList D ys.toArray ∧ h'.Ns C m' ∧ J (D :: C :: wr) i ys h') ?_ (n + 1)
      ⟨h₁, _, 0, [], _, rfl, Nat.zero_le _, rfl, Nat.le_refl _, st1, fun b o _ e => old b o e, hD1, hns₁, hmono _ _ _ _ _ (h0 D C D0 C0) fun b o _ e => old b o e⟩
    rintro k s' ⟨h', tk, i, ys, m', rfl, hi, rfl, hyl, hst', kp', hD', hn', hJ'⟩
    have wD : D ∉ wr := fun hm => fD (W.sub D hm)
    have wC : C ∉ wr := fun hm => fC (W.sub C hm)
    by_cases hlt : i < n
    · refine W.item i _ _ _ hlt hst' fun v h₂ tk₂ hMd k₂ => ?_
      refine W.go i v _ _ _ hMd fun h₃ hP st₃ k₃ => ?_
      have k23 : ∀ b o, b ∉ wr → h'.get? b = some o → h₃.get? b = some o := fun b o hb e => k₃ b o hb (k₂ b o hb e)
      obtain ⟨oC, esC, epC, c1, c2, c3, c4⟩ := hn'
      have nC3 : h₃.Ns C m' := ⟨oC, esC, epC, k23 _ _ wC c1, c2, c3, c4⟩
      have hD3 : h₃.PlainList D ys.toArray := let ⟨z, e⟩ := hD'; ⟨z, k23 _ _ wD e⟩
      refine wpAny_mono (step D C i ys v h₃ tk₂ m' hlt hP (hmono _ _ _ _ _ hJ' fun b o hb e => k23 b o (fun q => hb (.tail _ (.tail _ q))) e) (fun b o hb e => k23 b o hb (kp' b o hb e)) hD3 nC3 DC D0 C0) (fun _ s₄ h₄ => ?_) fun _ _ x => x.elim
      refine wpAny_mono h₄ (fun ok s₅ h₅ => ?_) fun _ _ x => x.elim
      cases ok with
      | true =>
        rw [if_pos rfl] at h₅ ⊢
        refine wpAny_mono h₅ (fun y s₆ h₆ => ?_) fun _ _ x => x.elim
        obtain ⟨h₇, tk₇, m₇, rfl, k₇, n₇, J₇⟩ := h₆
        have hD7 : h₇.PlainList D ys.toArray := let ⟨z, e⟩ := hD3; ⟨z, k₇ _ _ DC e⟩
        refine wpAny_list_append_plain (items := ys.toArray) hD7 (fun h₈ hpl s₈ => ?_) ?_
        · rw [List.push_toArray] at hpl
          obtain ⟨oC, esC, epC, c1, c2, c3, c4⟩ := n₇
          have kp8 : ∀ b o, b ≠ D → h₇.get? b = some o → h₈.get? b = some o := fun b o hb e => (s₈.2 b hb).trans e
          refine ⟨n + 1 - (i + 1), by exact fk2 1 1 1 (.a (.v 0) (.n 1)) (.v 1) (.a (.v 2) (.n 1)) (.a (.v 1) (.v 3)) (.a (.v 0) (.a (.v 3) (.n 1))) (.a (.v 2) (.n 1)) rfl [_, _, _, _] (sb2 _ _) (sb3 (fk1 1 1 (.a (.v 0) (.n 1)) (.a (.v 1) (.n 1)) (.v 0) (.v 1) rfl [_, _] hi)), h₈, tk₇, i + 1, ys ++ [y], m₇, rfl, hlt, rfl, by rw [List.length_append]; exact Nat.succ_le_succ hyl, W.frame _ _ _ st₃ fun b hb o e => kp8 b o (fun q => fD (q ▸ hb)) (k₇ b o (fun q => fC (q ▸ hb)) e), ?_, hpl, ⟨oC, esC, epC, kp8 _ _ DC.symm c1, c2, c3, c4⟩, hmono _ _ _ _ _ J₇ fun b o hb e => kp8 b o (fun q => hb (q ▸ .head _)) e⟩
          exact fun b o hb e => kp8 b o (fun q => by rw [q, D0] at e; cases e) (k₇ b o (fun q => by rw [q, C0] at e; cases e) (k23 b o hb (kp' b o hb e)))
        · rw [List.size_toArray]
          exact Nat.le_trans (Nat.le_trans hyl hi) hsz
      | false =>
        rw [if_neg Bool.false_ne_true] at h₅ ⊢
        obtain ⟨h₇, tk₇, m₇, rfl, k₇, n₇, J₇⟩ := h₅
        refine ⟨n + 1 - (i + 1), by exact fk2 1 1 1 (.a (.v 0) (.n 1)) (.v 1) (.a (.v 2) (.n 1)) (.a (.v 1) (.v 3)) (.a (.v 0) (.a (.v 3) (.n 1))) (.a (.v 2) (.n 1)) rfl [_, _, _, _] (sb2 _ _) (sb3 (fk1 1 1 (.a (.v 0) (.n 1)) (.a (.v 1) (.n 1)) (.v 0) (.v 1) rfl [_, _] hi)), h₇, tk₇, i + 1, ys, m₇, rfl, hlt, rfl, Nat.le_succ_of_le hyl, W.frame _ _ _ st₃ fun b hb o e => k₇ b o (fun q => fC (q ▸ hb)) e, ?_, let ⟨z, e⟩ := hD3; ⟨z, k₇ _ _ DC e⟩, n₇, J₇⟩
        exact fun b o hb e => k₇ b o (fun q => by rw [q, C0] at e; cases e) (k23 b o hb (kp' b o hb e))
    · have hin : i = n := by exact Nat.le_antisymm (fk1 1 1 (.v 0) (.v 1) (.v 0) (.v 1) rfl [_, _] hi) (fk1 1 1 (.v 0) (.v 1) (.v 0) (.v 1) rfl [_, _] (Nat.le_of_not_lt hlt))
      subst hin
      refine W.done _ _ _ hst' fun h₂ tk₂ k₂ => ?_
      obtain ⟨oC, esC, epC, c1, c2, c3, c4⟩ := hn'
      exact hfin D C ys h₂ tk₂ m' (hmono _ _ _ _ _ hJ' fun b o hb e => k₂ b o (fun q => hb (.tail _ (.tail _ q))) e) (fun b o hb e => k₂ b o hb (kp' b o hb e)) (let ⟨z, e⟩ := hD'; ⟨z, k₂ _ _ wD e⟩) ⟨oC, esC, epC, k₂ _ _ wC c1, c2, c3, c4⟩ DC D0 C0
  exact codeAny_compStart_list (loop _ rfl) (hself _ _ _ st1 (loop _ rfl))
end
end Mine
end
section
open PySem PySem.W PySem.Calls PyProof.Rows
set_option Elab.async false
set_option maxRecDepth 100000
set_option maxHeartbeats 8000000
set_option linter.unusedVariables false
namespace Mine
section
variable {M : Model} {A : Around} {E : Value → Shared → Prop} {h : Heap} {g : Array GenState} {d : Drawn} {tk : Nat} {os : OsState}
theorem lamMake {env : Env} {c P : Addr} {ps : Array Value} {pos : Pos} {fl : Nat} {name qual : Str} {params : Arguments} {body : Expr} {scope : Scope} {clos : List (Str × Addr)} {mg : Str → Option Value} {Q : Value → Shared → Prop}
    (hcl : closureFor scope env = pure clos) (hge : env.globals = mainGlobals) (hg : h.Ns mainGlobals mg) (hcode : env.code = .ref c) (C : CodeHd h c P) (hP : h.get? P = some (tabObj ps))
    (V : ps = #[] ∨ ∃ c', ps = #[rawInt pos.line, rawInt pos.col, .ref c'] ∧ h.CodeRec (.ref c') qual) (hgP : mainGlobals ≠ P) (hb : h.BuiltinsAt mg P)
    (hQ : ∀ fa c' ct h' tk', (∀ b o, b ≠ P → h.get? b = some o → h'.get? b = some o) → h.get? fa = none → h'.get? fa = some (kla_obj name qual params body scope clos ((mg "__name__").getD .none) c' ct) → h'.CodeRec (.ref c') qual →
      h'.get? P = some (tabObj #[rawInt pos.line, rawInt pos.col, .ref c']) → Q (.ref fa) ⟨h', g, d, tk', os⟩) :
    wpAny M A (makeFunction name qual params (.expr body) scope env [] [] [] pos fl) Q E ⟨h, g, d, tk, os⟩ := by
  rcases V with rfl | ⟨c', rfl, hc'⟩
  · refine kla_makeFunction hcl hge hg hcode C hP trivial rfl hgP hb fun c' ct h' tk' hx hge' hlt hrec hP' => ?_
    have sz : h.objs.size ≤ h'.objs.size := Nat.le_of_lt (Nat.lt_of_le_of_lt hge' hlt)
    exact hQ _ c' ct _ _ (fun b o hb' e => Heap.get?_push_of_some _ (hx b o hb' e)) (Heap.get?_none_of_le sz) (Heap.get?_push_size _ rfl) (hrec.push _) (Heap.get?_push_of_some _ hP')
  · have am : codeAmong pos [rawInt pos.line, rawInt pos.col, .ref c'] = some (.ref c') := codeAmong_snoc [] trivial rfl
    refine kla_makeFunctionHit hcl hge hg hcode C hP trivial am hb fun ct h' tk' k sz => ?_
    exact hQ _ c' ct _ _ (fun b o hb' e => Heap.get?_push_of_some _ (k b o e)) (Heap.get?_none_of_le sz) (Heap.get?_push_size _ rfl) ((hc'.keeps k).push _) (Heap.get?_push_of_some _ (k _ _ hP))
end
end Mine
end
section
open PySem PySem.W PySem.Calls PyProof.Rows
set_option Elab.async false
set_option maxRecDepth 100000
set_option maxHeartbeats 8000000
set_option linter.unusedVariables false
namespace Mine
section
variable {w : World} {A : Around} {E : Value → Shared → Prop} {h : Heap} {g : Array GenState} {d : Drawn} {tk : Nat} {os : OsState}
/-- two names of a pair, a list -/
theorem asgL2 {env : Env} {l C : Addr} {a b : Value} {x y : Str} {px py tp : Pos} {k : Nat} {m : Str → Option Value} {Q : Unit → Shared → Prop} (hh : A.handled = none) (hl : h.IsList l #[a, b]) (hC : env.locals = C) (hx : env.kindOf x = some .local) (hy : env.kindOf y = some .local)
    (hp : (env.scope.kind == .class || (env.scope.kind == .module && env.locals != env.globals)) = false) (hn : h.Ns C m)
    (hQ : ∀ h' tk', (∀ b o, b ≠ C → h.get? b = some o → h'.get? b = some o) → h'.Ns C (fun z => if z = y then some b else if z = x then some a else m z) → Q () ⟨h', g, d, tk', os⟩) :
    wpAny (model PR w) A (assign (.Tuple [.Name x px, .Name y py] k tp) env (.ref l)) Q E ⟨h, g, d, tk, os⟩ := by
  rw [assign_Tuple]
  refine wpAny_bind (wpAny_standAt ?_)
  unfold unpack
  refine wpAny_bind (wpAny_holding (kun_itemsOf (items := #[a, b]) hh hl fun h₁ e₁ => ?_))
  have k₁ : ∀ b o, h.get? b = some o → h₁.get? b = some o := fun b o e => e₁ b o (Nat.ne_of_lt (Heap.lt_size e)) e
  refine wpAny_assignInOrder_more (wpAny_assign_Name ?_)
  subst hC
  refine wpAny_storeName_local hx (hn.keeps k₁) (fun h₂ n₂ s₂ => ?_) hp
  refine wpAny_assignInOrder_more (wpAny_assign_Name ?_)
  refine wpAny_storeName_local hy n₂ (fun h₃ n₃ s₃ => ?_) hp
  exact wpAny_assignInOrder_none (hQ _ _ (fun b o hb e => (s₃.2 b hb).trans ((s₂.2 b hb).trans (k₁ b o e))) n₃)
end
theorem inr4 {a : Int} (h : InR a) : a = 0 ∨ a = 1 ∨ a = 2 ∨ a = 3 := by have h1 := h.1; have h2 := h.2; lia
/-- a file's four things -/
structure Th where
  k0 : Int
  k1 : Int
  tx : Str
  sz : Int
noncomputable def Th.O (x : Th) (t0 t1 t2 t3 : Tok) : Obj := PySem.W.listOf #[.int x.k0 t0, .int x.k1 t1, .str x.tx t2, .int x.sz t3] 0
inductive ThAt (h : Heap) (a : Addr) (x : Th) : Prop
  | mk (t0 t1 t2 t3 : Tok) (e : h.get? a = some (x.O t0 t1 t2 t3)) : ThAt h a x
noncomputable def cmpI (x y : Int) : Int := b2i (decide (y < x)) - b2i (decide (x < y))
noncomputable def cmpS (x y : Str) : Int := b2i (decide (y.cps.toList < x.cps.toList)) - b2i (decide (x.cps.toList < y.cps.toList))
noncomputable def cmp4 (x y : Th) (w : Int) : Int := if w = 0 then cmpI x.k0 y.k0 else if w = 1 then cmpI x.k1 y.k1 else if w = 2 then cmpS x.tx y.tx else cmpI x.sz y.sz
noncomputable def ask1 (x y : Th) (w : Int × Bool) : Int := if w.2 then - cmp4 x y w.1 else cmp4 x y w.1
/-- the wishes as they stand -/
noncomputable def WsAt (h : Heap) (D : Addr) (ws : List (Int × Bool)) : Prop := ∃ (vs : List Value) (n : Nat), h.get? D = some (PySem.W.listOf vs.toArray n) ∧ vs.length = ws.length ∧ ws.length ≤ 4 ∧ ∀ (i : Nat) (v : Value), vs[i]? = some v → ∃ l a t b, v = .ref l ∧ h.get? l = some (PySem.W.listOf #[.int a t, .bool b] 0) ∧ InR a ∧ ws[i]? = some (a, b)
theorem WsAt.keeps {h h' : Heap} {D : Addr} {ws : List (Int × Bool)} (x : WsAt h D ws) (k : ∀ b o, b ≠ 100 → h.get? b = some o → h'.get? b = some o) (h100 : ∃ ps, h.get? 100 = some (tabObj ps)) : WsAt h' D ws := by
  obtain ⟨ps, h100⟩ := h100
  have ne : ∀ a its n, h.get? a = some (PySem.W.listOf its n) → a ≠ 100 := fun a its n e q => by rw [q, h100] at e; cases e
  obtain ⟨vs, n, e, l1, l2, f⟩ := x
  refine ⟨vs, n, k _ _ (ne _ _ _ e) e, l1, l2, fun i v hv => ?_⟩
  obtain ⟨l, a, t, b, rfl, e', r, q⟩ := f i v hv
  exact ⟨l, a, t, b, rfl, k _ _ (ne _ _ _ e') e', r, q⟩
section
variable {w : World} {A : Around} {E : Value → Shared → Prop} {s : Shared}
/-- x = [.. for .. in ..], the store exchanged with the comprehension's end -/
theorem compA {elt target iter : Expr} {ifs : List Expr} {scope : Scope} {cl : List (Str × Addr)} {pos spos py : Pos} {y : Str} {env : Env} {Q : Flow → Shared → Prop}
    (hsw : swapsWith (.ListComp elt [⟨target, iter, ifs, 0⟩] scope pos) (some (.Name y py)) spos.line env = pure true)
    (hclos : closureFor scope env = pure cl) (hkind : scope.kind = .function) (hnames : ∀ z ∈ scope.names, z.2 = .local → scope.names.lookup z.1 = some .local) (hs : ∀ x, foldedSetIterable iter env x = pure x)
    (h : wpAny (model PR w) A (eval iter env) (fun xv s₁ => wpAny (model PR w) A (pyIter xv) (fun it s₂ => wpAny (model PR w) A (newList []) (fun acc s₃ => wpAny (model PR w) A (newFunctionEnv scope env.globals cl [] env.qual none .none (some env)) (fun cenv s₄ =>
      codeAny (model PR w) A (.compStart (.ListComp elt [⟨target, iter, ifs, 0⟩] scope pos) 0 it acc { cenv with scope := relabel scope env }) (compPost (model PR w) A E (some (assign (.Name y py) env)) (fun _ s' => Q .next s') acc cenv.locals) s₄) E s₃) E s₂) E s₁) E s) :
    wpAny (model PR w) A (exec (.Assign [.Name y py] (.ListComp elt [⟨target, iter, ifs, 0⟩] scope pos) spos) env) Q E s := by
  rw [exec_Assign_Name_used _ _ _ _ hsw]
  refine wpAny_bind (wpAny_standAt (wpAny_bind ?_))
  show wpAny _ A (do let _ ← comprehension (.ListComp elt [⟨target, iter, ifs, 0⟩] scope pos) scope env _ (newList []) false (eval iter env) (some (assign (.Name y py) env))) _ _ s
  exact wpAny_bind (wpAny_mono (wpAny_comprehension_free (use := some (assign (.Name y py) env)) (Q := fun _ s' => Q .next s') rfl hs hclos hkind hnames h) (fun _ s' hq => wpAny_pure (wpAny_pure hq)) fun _ _ e => e)
end
noncomputable def TurnJ (s : Shared) (L : Addr) (mL : Str → Option Value) (o1 o2 : Obj) (ps : Array Value) (x y : Th) (ws : List (Int × Bool)) (av : List Addr) (i : Nat) (ys : List Value) (h : Heap) : Prop :=
  Fr (gh s.heap) L h mL ∧ News (gh s.heap) L h [(L + 1 + 1, o2), (L + 1, o1), (100, tabObj ps)] ∧ (∀ a ∈ av, s.heap.get? a = none ∧ a ≠ L ∧ a ≠ L + 1 ∧ a ≠ L + 1 + 1) ∧ IntsAre ys ((ws.take i).map (ask1 x y))
noncomputable def LamP (s : Shared) (a b : Int) (v : Value) (s' : Shared) : Prop := St0 s s' ∧ ∃ t, v = .int (if a = 0 then b else a) t
theorem ints_snoc {vs : List Value} {xs : List Int} {a : Int} {t : Tok} : IntsAre vs xs → IntsAre (vs ++ [.int a t]) (xs ++ [a])
  | .nil => .cons a t .nil
  | .cons y u r => .cons y u (ints_snoc r)
theorem take_snoc {α : Type} {l : List α} {i : Nat} {a : α} (h : l[i]? = some a) : l.take (i + 1) = l.take i ++ [a] := by rw [List.take_add_one, h]; rfl
theorem turnEnd {s sb : Shared} {L C' : Addr} {mL m₂ : Str → Option Value} {o1 o2 oC : Obj} {ps : Array Value} {x y : Th} {ws : List (Int × Bool)} {av : List Addr} {i : Nat} {ys : List Value} {h hq : Heap} {z : Nat} {t : Tok} {q : Int} {wi : Int} {bk : Bool} (F : Fr (gh s.heap) L hq mL) (N : News (gh s.heap) L hq [(C', oC), (L + 1 + 1, o2), (L + 1, o1), (100, tabObj ps)])
    (k : ∀ b o, b ≠ C' → h.get? b = some o → hq.get? b = some o) (hn : LCg.NsObj oC m₂) (hav : ∀ a ∈ av, s.heap.get? a = none ∧ a ≠ L ∧ a ≠ L + 1 ∧ a ≠ L + 1 + 1) (hI : IntsAre ys ((ws.take i).map (ask1 x y))) (hw : ws[i]? = some (wi, bk)) (he : q = ask1 x y (wi, bk)) :
    TurnC sb C' h (TurnJ s L mL o1 o2 ps x y ws av (i + 1) (ys ++ [.int q t])) { sb with heap := hq, toks := z } := by
  refine ⟨hq, z, m₂, rfl, k, hn.ns (N _ (.head _)).1, F, fun p hp => N p (.tail _ hp), hav, ?_⟩
  rw [take_snoc hw, List.map_append]
  subst he
  exact ints_snoc hI
section
variable {w : World} {loose : List Str} {mean : ExcName → Option Value} {mg mb : Str → Option Value} {A : Around} {s : Shared} {Q E : Value → Shared → Prop}
theorem c_turn {a b D : Addr} {x y : Th} {ws : List (Int × Bool)} (W : Wd w loose mean mg mb s.heap) (r : Rm A 8) (ha : ThAt s.heap a x) (hb : ThAt s.heap b y) (hD : WsAt s.heap D ws)
    (hQ : ∀ t s', Stp s s' → Q (.int (red (ws.map (ask1 x y))) t) s') : wpAny (model PR w) A (call (.ref 103) [.ref a, .ref b, .ref D]) Q E s := by
  have X := W.X
  have T := W.T
  obtain ⟨Ah, Ad, Af, Ag, Au⟩ := A
  obtain rfl : Ah = none := r.1
  obtain ⟨psT, hT, _⟩ := id W.tab
  have ne : ∀ a its n, s.heap.get? a = some (PySem.W.listOf its n) → a ≠ 100 := fun a its n e q => by rw [q, hT] at e; cases e
  refine enterC W r (X _ _ (by k_is)) rfl (codeRec_of X (by k_is)) (BindsTo.of_eq rfl) rfl (by decide) ?_
  intro ps L h₁ tk cells hL V h100 hL1 r' x₁ F N C
  obtain ⟨o2, o1, rfl, hc2, hc1⟩ := CellsAre.two C
  clear C
  have hc1' : o1.data = .cell (some (.ref a)) := hc1
  have hc2' : o2.data = .cell (some (.ref b)) := hc2
  clear hc1 hc2
  have N' : News (gh s.heap) L h₁ [(L + 1 + 1, o2), (L + 1, o1), (100, tabObj ps)] := N
  clear N
  obtain ⟨mL, hmw, F⟩ : ∃ mL, mL (Str.ofString "wishes") = some (.ref D) ∧ Fr (gh s.heap) L h₁ mL := ⟨_, rfl, F⟩
  refine wpAny_execs_cons (compA (by kernel_rfl!) (cl := [(Str.ofString "two", L + 1 + 1), (Str.ofString "one", L + 1)]) ?c1 rfl ?c3 ?c4 ?_)
  case c1 => kernel_rfl!
  case c3 => decide
  case c4 => intro; rfl
  obtain ⟨vs, n, hDv, l1, l2, hvs⟩ := hD
  have hDg : (gh s.heap).get? D = some (PySem.W.listOf vs.toArray n) := gh_ne hDv (ne _ _ _ hDv)
  refine wpAny_Name (wpAny_loadName_local rfl rfl F.ns hmw ?_)
  have hDl : h₁.IsList D vs.toArray := ⟨_, F.keep _ _ hDg, rfl, _, rfl⟩
  refine wpAny_pyIter_list hDl ?_
  have up : ∀ b o, h₁.get? b = some o → (h₁.push { cls := .type "list_iterator", data := .fields #[.ref D, .int 0 0] }).get? b = some o := fun b o e => Heap.get?_push_of_some _ e
  have DltI : D < h₁.objs.size := Heap.lt_size (F.keep _ _ hDg)
  have I0 : h₁.get? h₁.objs.size = none := Heap.get?_none_of_le (Nat.le_refl _)
  have sz1 : s.heap.objs.size ≤ h₁.objs.size := by rw [← hL]; exact Nat.le_of_lt F.ns.lt
  refine blockG (TurnJ s L mL o1 o2 ps x y ws) (KTurns.ofWalks (Walks.list rfl h₁.objs.size D (Nat.ne_of_lt DltI) vs.toArray) fun i v s Q E st q => letGo_listiter st.1 q) (fun s Q E st q => wpAny_pyIter_listiter st.1 q) ?sz ?fp ?st (by decide) rfl ?mono ?h0 ?step ?fin
  case sz => rw [List.size_toArray, l1, sizeLine_eq]; exact fk1 1 1 (.v 0) (.n 16777216) (.v 0) (.n 4) rfl [_] l2
  case fp =>
    intro b hb
    show b < (h₁.push _).objs.size
    rw [Heap.size_push]
    rcases List.mem_cons.mp hb with rfl | hb
    · exact Nat.lt_succ_self _
    · rw [List.mem_singleton.mp hb]; exact Nat.lt_succ_of_lt DltI
  case st => exact ⟨⟨_, Heap.get?_push_size _ rfl, rfl, rfl⟩, hDl.push _⟩
  case mono =>
    rintro av i ys h h' ⟨F', N'', hav, hI⟩ k
    have nb : ∀ b o, (gh s.heap).get? b = some o → b ∉ av := fun b o e hm => by have := of_gh e; rw [(hav b hm).1] at this; cases this
    obtain ⟨_, _, f3⟩ := id F'
    obtain ⟨oL, esL, epL, e1, e2, e3, e4⟩ := F'.ns
    refine ⟨⟨⟨oL, esL, epL, k _ _ (fun hm => (hav L hm).2.1 rfl) e1, e2, e3, e4⟩, fun b o e => k b o (nb b o e) (F'.keep b o e), f3⟩, fun p hp => ⟨k _ _ (fun hm => ?_) (N'' p hp).1, (N'' p hp).2⟩, hav, hI⟩
    rcases List.mem_cons.mp hp with rfl | hp
    · exact (hav _ hm).2.2.2 rfl
    rcases List.mem_cons.mp hp with rfl | hp
    · exact (hav _ hm).2.2.1 rfl
    · rw [List.mem_singleton.mp hp] at hm
      have := (hav _ hm).1
      rw [h100] at this
      cases this
  case h0 =>
    intro D' C' hD' hC'
    have lt : ∀ a, (h₁.push { cls := .type "list_iterator", data := .fields #[.ref D, .int 0 0] }).get? a = none → s.heap.get? a = none ∧ a ≠ L ∧ a ≠ L + 1 ∧ a ≠ L + 1 + 1 := fun a e => by
      refine ⟨?_, fun q => ?_, fun q => ?_, fun q => ?_⟩
      · cases z : s.heap.get? a with
        | none => rfl
        | some o =>
          by_cases hb : a = 100
          · rw [hb] at e; rw [up _ _ (N' (100, tabObj ps) (by simp)).1] at e; cases e
          · rw [up _ _ (x₁ _ _ hb z)] at e; cases e
      · obtain ⟨oL, _, _, e1, _⟩ := F.ns
        rw [q, up _ _ e1] at e; cases e
      · rw [q, up _ _ (N' (L + 1, o1) (by simp)).1] at e; cases e
      · rw [q, up _ _ (N' (L + 1 + 1, o2) (by simp)).1] at e; cases e
    refine ⟨F.keeps up, N'.grown up, fun z hz => ?_, .nil⟩
    rcases List.mem_cons.mp hz with rfl | hz
    · exact lt _ hD'
    rcases List.mem_cons.mp hz with rfl | hz
    · exact lt _ hC'
    · rw [List.mem_singleton.mp hz]
      refine ⟨Heap.get?_none_of_le sz1, ?_, ?_, ?_⟩
      · exact fun q => by obtain ⟨oL, _, _, e1, _⟩ := F.ns; rw [← q, I0] at e1; cases e1
      · exact fun q => by have e1 := (N' (L + 1, o1) (by simp)).1; rw [← q, I0] at e1; cases e1
      · exact fun q => by have e1 := (N' (L + 1 + 1, o2) (by simp)).1; rw [← q, I0] at e1; cases e1
  case step =>
    rintro D' C' i ys v h tk' m hi hv ⟨F', N'', hav, hI⟩ kp hD' hn DC D0 C0
    obtain ⟨l, wi, t, bk, rfl, hl, hr, hw⟩ := hvs i v (by simpa using hv)
    have hlg : (gh s.heap).get? l = some _ := gh_ne hl (ne _ _ _ hl)
    refine asgL2 rfl ⟨_, F'.keep _ _ hlg, rfl, _, rfl⟩ rfl (by kernel_rfl!) (by kernel_rfl!) rfl hn ?_
    intro h₂ tk₂ k₂ n₂
    replace k₂ : ∀ b o, b ≠ C' → h.get? b = some o → h₂.get? b = some o := k₂
    rw [List.forIn_nil]
    refine wpAny_pure ?_
    rw [if_pos rfl]
    obtain ⟨m₂, hm1, hm2, n₂⟩ : ∃ m₂, m₂ (Str.ofString "wish") = some (.int wi t) ∧ m₂ (Str.ofString "back") = some (.bool bk) ∧ h₂.Ns C' m₂ := ⟨_, rfl, rfl, n₂⟩
    obtain ⟨oC, eC, hnC⟩ := LCg.ns_obj n₂
    have cav := hav C' (.tail _ (.head _))
    have F₂ : Fr (gh s.heap) L h₂ mL := by
      obtain ⟨_, _, f3⟩ := id F'
      obtain ⟨oL, esL, epL, e1, e2, e3, e4⟩ := F'.ns
      exact ⟨⟨oL, esL, epL, k₂ _ _ cav.2.1.symm e1, e2, e3, e4⟩, fun b o e => k₂ b o (fun q => by have := of_gh e; rw [q, cav.1] at this; cases this) (F'.keep b o e), f3⟩
    have N₂ : News (gh s.heap) L h₂ [(C', oC), (L + 1 + 1, o2), (L + 1, o1), (100, tabObj ps)] := by
      intro p hp
      rcases List.mem_cons.mp hp with rfl | hp
      · refine ⟨eC, cav.2.1, ?_⟩
        cases q : (gh s.heap).get? C' with
        | none => rfl
        | some o => have := of_gh q; rw [cav.1] at this; cases this
      · refine ⟨k₂ _ _ (fun q => ?_) (N'' p hp).1, (N'' p hp).2⟩
        rcases List.mem_cons.mp hp with rfl | hp
        · exact cav.2.2.2 q.symm
        rcases List.mem_cons.mp hp with rfl | hp
        · exact cav.2.2.1 q.symm
        · rw [List.mem_singleton.mp hp] at q
          have := cav.1
          rw [← q, h100] at this
          cases this
    obtain ⟨a0, a1, a2, a3, hA⟩ := id ha
    obtain ⟨b0, b1, b2, b3, hB⟩ := id hb
    have hAl : (gh s.heap).IsList a #[.int x.k0 a0, .int x.k1 a1, .str x.tx a2, .int x.sz a3] := ⟨_, gh_ne hA (ne _ _ _ hA), rfl, _, rfl⟩
    have hBl : (gh s.heap).IsList b #[.int y.k0 b0, .int y.k1 b1, .str y.tx b2, .int y.sz b3] := ⟨_, gh_ne hB (ne _ _ _ hB), rfl, _, rfl⟩
    have cC : C' ≠ L + 1 := cav.2.2.1
    have cC2 : C' ≠ L + 1 + 1 := cav.2.2.2
    have cC3 : C' ≠ L := cav.2.1
    clear F N' F' N'' hDl DltI
    rcases inr4 hr with rfl | rfl | rfl | rfl
    · cases bk
      all_goals (
        k_steps
        rename Fr _ _ _ _ => Fq; rename News _ _ _ _ => Nq
        refine c_twc (W.mid Fq Nq V (by simp)) (r'.le (by decide)) ?_
        rintro tq sq ⟨hq, tkq, rfl, kq⟩
        have Fq' := Fq.keeps kq
        have Nq' := Nq.grown kq
        clear Fq Nq
        dsimp only
        k_steps
        rename Fr _ _ _ _ => Fq; rename News _ _ _ _ => Nq
        exact turnEnd Fq Nq (fun b o hb e => kq _ _ (k₂ b o hb e)) hnC hav hI hw rfl)
    · cases bk
      all_goals (
        k_steps
        rename Fr _ _ _ _ => Fq; rename News _ _ _ _ => Nq
        refine c_twc (W.mid Fq Nq V (by simp)) (r'.le (by decide)) ?_
        rintro tq sq ⟨hq, tkq, rfl, kq⟩
        have Fq' := Fq.keeps kq
        have Nq' := Nq.grown kq
        clear Fq Nq
        dsimp only
        k_steps
        rename Fr _ _ _ _ => Fq; rename News _ _ _ _ => Nq
        exact turnEnd Fq Nq (fun b o hb e => kq _ _ (k₂ b o hb e)) hnC hav hI hw rfl)
    · cases bk
      all_goals (
        k_steps
        rename Fr _ _ _ _ => Fq; rename News _ _ _ _ => Nq
        refine c_twcs (W.mid Fq Nq V (by simp)) (r'.le (by decide)) ?_
        rintro tq sq ⟨hq, tkq, rfl, kq⟩
        have Fq' := Fq.keeps kq
        have Nq' := Nq.grown kq
        clear Fq Nq
        dsimp only
        k_steps
        rename Fr _ _ _ _ => Fq; rename News _ _ _ _ => Nq
        exact turnEnd Fq Nq (fun b o hb e => kq _ _ (k₂ b o hb e)) hnC hav hI hw rfl)
    · cases bk
      all_goals (
        k_steps
        rename Fr _ _ _ _ => Fq; rename News _ _ _ _ => Nq
        refine c_twc (W.mid Fq Nq V (by simp)) (r'.le (by decide)) ?_
        rintro tq sq ⟨hq, tkq, rfl, kq⟩
        have Fq' := Fq.keeps kq
        have Nq' := Nq.grown kq
        clear Fq Nq
        dsimp only
        k_steps
        rename Fr _ _ _ _ => Fq; rename News _ _ _ _ => Nq
        exact turnEnd Fq Nq (fun b o hb e => kq _ _ (k₂ b o hb e)) hnC hav hI hw rfl)
  case fin =>
    rintro D' C' ys h tk' m ⟨F', N'', hav, hI⟩ kp hD' hn DC D0 C0
    have cav := hav C' (.tail _ (.head _))
    have dav := hav D' (.head _)
    refine wpAny_assign_Name (wpAny_storeName_local rfl F'.ns (fun h₃ n₃ s₃ => ?_))
    obtain ⟨oC, esC, epC, c1, c2, c3, c4⟩ := hn
    refine ⟨m, ⟨oC, esC, epC, (s₃.2 _ cav.2.1).trans c1, c2, c3, c4⟩, fun h₄ s₄ => ?_⟩
    have k₄ : ∀ b o, b ≠ L → b ≠ C' → h.get? b = some o → h₄.get? b = some o := fun b o b1 b2 e => (s₄.2 b b2).trans ((s₃.2 b b1).trans e)
    have F₄ : Fr (gh s.heap) L h₄ (fun z => if z = Str.ofString "asked" then some (.ref D') else mL z) := by
      obtain ⟨_, _, f3⟩ := id F'
      obtain ⟨oL, esL, epL, e1, e2, e3, e4⟩ := n₃
      refine ⟨⟨oL, esL, epL, (s₄.2 _ cav.2.1.symm).trans e1, e2, e3, e4⟩, fun b o e => k₄ b o (fun q => ?_) (fun q => ?_) (F'.keep b o e), f3⟩
      · have := of_gh e
        rw [q, hL] at this
        exact absurd (Heap.lt_size this) (Nat.lt_irrefl _)
      · have := of_gh e
        rw [q, cav.1] at this
        cases this
    obtain ⟨zD, hDz⟩ := hD'
    have N₄ : News (gh s.heap) L h₄ [(D', PySem.W.listOf ys.toArray zD), (L + 1 + 1, o2), (L + 1, o1), (100, tabObj ps)] := by
      intro p hp
      rcases List.mem_cons.mp hp with rfl | hp
      · refine ⟨k₄ _ _ dav.2.1 DC hDz, dav.2.1, ?_⟩
        cases q : (gh s.heap).get? D' with
        | none => rfl
        | some o => have := of_gh q; rw [dav.1] at this; cases this
      · refine ⟨k₄ _ _ (N'' p hp).2.1 (fun q => ?_) (N'' p hp).1, (N'' p hp).2⟩
        rcases List.mem_cons.mp hp with rfl | hp
        · exact cav.2.2.2 q.symm
        rcases List.mem_cons.mp hp with rfl | hp
        · exact cav.2.2.1 q.symm
        · rw [List.mem_singleton.mp hp] at q
          have := cav.1
          rw [← q, h100] at this
          cases this
    have D1 : D' ≠ 100 := fun q => by have := dav.1; rw [q, h100] at this; cases this
    clear F N' F' N'' hDl DltI
    have hG : h₄.Ns mainGlobals mg := T.g.keeps F₄.keep
    have hBA : h₄.BuiltinsAt mg 100 := by
      obtain ⟨bm, ob, hbm, hbn, hbo, hbc, hbd, hbt⟩ := T.bmain
      refine ⟨bm, ob, hbm, hbn, fun q => ?_, gh_neq hbo, F₄.keep _ _ hbo, hbc, hbd, hbt⟩
      obtain ⟨o, es', ep', e1, e2, _⟩ := T.g
      rw [q, e1] at hbo
      cases hbo
      rw [e2] at hbt
      cases hbt
    have C102 : CodeHd h₄ 102 100 := ⟨_, _, _, _, _, _, _, _, _, F₄.keep _ _ (X 102 _ (by k_is)), rfl, rfl, rfl, rfl, rfl, rfl, rfl, rfl, by decide⟩
    have hP := (N₄ (100, tabObj ps) (by simp)).1
    (repeat (((fail_if_success (with_reducible show wpAny _ _ (eval (Expr.Lambda _ _ _ _) _) _ _ _))); walk1))
    refine kla_eval rfl ?_
    refine lamMake (c := 102) (P := 100) (clos := []) (by kernel_rfl!) rfl hG rfl C102 hP ?V (by decide) hBA ?_
    case V =>
      rcases V with rfl | ⟨c', rfl, hc'⟩
      · exact .inl rfl
      · exact .inr ⟨c', rfl, hc'.keeps F₄.keep⟩
    intro fa c' ct h₅ tk₅ k₅ fa0 hfa hrec h5100
    have faL : fa ≠ L := fun q => by
      obtain ⟨oL, _, _, e1, _⟩ := F₄.ns
      rw [← q, fa0] at e1
      cases e1
    have F₅ : Fr (gh s.heap) L h₅ (fun z => if z = Str.ofString "asked" then some (.ref D') else mL z) := by
      obtain ⟨_, _, f3⟩ := id F₄
      obtain ⟨oL, esL, epL, e1, e2, e3, e4⟩ := F₄.ns
      exact ⟨⟨oL, esL, epL, k₅ _ _ (Nat.ne_of_gt hL1) e1, e2, e3, e4⟩, fun b o e => k₅ b o (gh_neq e) (F₄.keep b o e), f3⟩
    have hDz5 : h₅.get? D' = some (PySem.W.listOf ys.toArray zD) := k₅ _ _ D1 (N₄ _ (.head _)).1
    refine Calls.spliced_cons ?_
    refine wpAny_Name (wpAny_loadName_local rfl rfl F₅.ns rfl ?_)
    refine Calls.spliced_cons ?_
    rw [eval_Constant]
    refine (show wpAny _ _ (mkInt 0) _ _ _ from wpAny_mkInt ?_)
    refine Calls.spliced_nil ⟨X.keeps F₅.keep, ?_⟩
    have x5 : Ext1 s.heap h₅ := fun b o hb e => k₅ b o hb (F₄.keep b o (gh_ne e hb))
    have c100 : c' ≠ 100 := fun q => by
      obtain ⟨c₂, oc, vs', t2, e, g2, d1, d2⟩ := hrec
      cases e
      rw [q, h5100] at g2
      cases g2
      cases d1
      simp [rawInt] at d2
    have T5 : Tab h₅ := ⟨_, h5100, .inr ⟨c', rfl, by
      obtain ⟨c₂, oc, vs', t2, e, g2, d1, d2⟩ := hrec
      cases e
      exact ⟨_, oc, vs', t2, rfl, gh_ne g2 c100, d1, d2⟩⟩⟩
    have W5 := W.next x5 T5
    rw [show List.take vs.toArray.size ws = ws by rw [List.size_toArray, l1]; exact List.take_length] at hI
    refine c_reduce (s := { s with heap := h₅, toks := _ }) W5 (r'.le (by decide)) hDz5 D1 hI ⟨_, _, hfa, rfl⟩ ?lam ?fin2
    case fin2 =>
      rintro t s' ⟨h6, tk6, rfl, k6⟩
      exact hQ _ _ ⟨h6, tk6, rfl, fun b o hb e => k6 _ _ (x5 b o hb e), (let ⟨ps', e, v⟩ := T5; ⟨ps', k6 _ _ e, v.ext (Ext1.of k6)⟩)⟩
    case lam =>
      rintro B s' p q tp tq rB ⟨h6, tk6, rfl, k6⟩
      have W6 := W5.keeps k6
      obtain ⟨Bh, Bd, Bf, Bg, Bu⟩ := B
      obtain rfl : Bh = none := rB.1
      have X6 := W6.X
      have T6 := W6.T
      refine wpAny_mono (Q := LamP _ p q) (E := fun _ _ => False) ?_ (fun v s' h => h) fun _ _ e => e
      refine enterL W6 rB (k6 _ _ hfa) rfl (hrec.keeps k6) rfl (locs rfl) ?_
      clear F₄ F₅ N₄ X T hG hBA C102
      intro ps6 h7 tk7 V7 h7100 hlt7 r7 x7 kk7 F7 N7
      k_steps
      · rename p ≠ 0 => hp0; rename Fr _ _ _ _ => F9; rename News _ _ _ _ => N9
        exact ⟨leave0 F9 N9 h7100 (by simp), tp, by rw [if_neg hp0]⟩
      · rename p = 0 => hp0; rename Fr _ _ _ _ => F9; rename News _ _ _ _ => N9
        exact ⟨leave0 F9 N9 h7100 (by simp), tq, by rw [if_pos hp0]⟩
end
end Mine
end
section
open PySem PySem.W PySem.Calls PyProof.Rows
set_option Elab.async false
set_option maxRecDepth 100000
set_option maxHeartbeats 8000000
set_option linter.unusedVariables false
namespace Mine
/-- an entry of a class's dict -/
noncomputable abbrev ent (h : Int) (n : String) (t : Tok) (v : Value) : DictEntry := ⟨h, .str (Str.ofString n) t, v⟩
noncomputable abbrev dcO (es : List DictEntry) (n : Nat) : Obj := { cls := .type "dict", data := .dict es.toArray n }
structure CV where
  hs : Nat → Int
  ts : Nat → Tok
  tm : Tok
  tq : Tok
  tl : Tok
  sl : Addr
  fi : Addr
  fl : Addr
  fg : Addr
  fe : Addr
  fle : Addr
  fge : Addr
  st : Addr
noncomputable abbrev CV.mv (c : CV) : Value := .str (Str.ofString "cpy313.functools") c.tm
noncomputable abbrev CV.lv (c : CV) : Value := .int 7 c.tl
noncomputable abbrev CV.qv (c : CV) : Value := .str (Str.ofString "cmp_to_key.<locals>.K") c.tq
noncomputable abbrev CV.tail (c : CV) : List DictEntry := [ent (c.hs 2) "__firstlineno__" (c.ts 2) c.lv, ent (c.hs 3) "__slots__" (c.ts 3) (.ref c.sl), ent (c.hs 4) "__init__" (c.ts 4) (.ref c.fi), ent (c.hs 5) "__lt__" (c.ts 5) (.ref c.fl),
  ent (c.hs 6) "__gt__" (c.ts 6) (.ref c.fg), ent (c.hs 7) "__eq__" (c.ts 7) (.ref c.fe), ent (c.hs 8) "__le__" (c.ts 8) (.ref c.fle), ent (c.hs 9) "__ge__" (c.ts 9) (.ref c.fge), ent (c.hs 10) "__hash__" (c.ts 10) .none, ent (c.hs 11) "__static_attributes__" (c.ts 11) (.ref c.st)]
noncomputable abbrev CV.es12 (c : CV) : List DictEntry := ent (c.hs 0) "__module__" (c.ts 0) c.mv :: ent (c.hs 1) "__qualname__" (c.ts 1) c.qv :: c.tail
noncomputable abbrev CV.es11 (c : CV) : List DictEntry := ent (c.hs 0) "__module__" (c.ts 0) c.mv :: c.tail
noncomputable abbrev CV.esO (c : CV) (h : Int) (t : Tok) (md : Addr) : List DictEntry := c.es11 ++ [ent h "obj" t (.ref md)]
noncomputable abbrev CV.esD (c : CV) (h : Int) (t : Tok) (md : Addr) (h' : Int) (t' : Tok) : List DictEntry := c.es11 ++ [ent h "obj" t (.ref md), ent h' "__doc__" t' .none]
noncomputable abbrev kcd (N : Addr) (mro : List Value) (hd : Bool) (sn : List Str) : ClassData := { name := Str.ofString "K", bases := [.type "object"], mro, ns := N, qualname := Str.ofString "cmp_to_key.<locals>.K", hasDict := hd, slotNames := sn }
noncomputable abbrev mdO (t : Tok) (C : Addr) : Obj := { cls := .type "member_descriptor", data := .fields #[.str (Str.ofString "obj") t, .ref C, .builtin "proto.slot", .builtin "proto.slot#set", rawInt 0] }
noncomputable abbrev clO (cd : ClassData) (sl : Array (Option Value)) : Obj := ⟨.type "type", none, .cls cd, sl⟩
section
variable {M : Model} {A : Around} {E : Value → Shared → Prop} {h : Heap} {g : Array GenState} {d : Drawn} {tk : Nat} {os : OsState}
theorem it0 {α : Type} {b : Bool} {x y : Sem α} {Q : α → Shared → Prop} (e : b = false) (hq : wpAny M A y Q E ⟨h, g, d, tk, os⟩) : wpAny M A (if b = true then x else y) Q E ⟨h, g, d, tk, os⟩ := by
  subst e
  exact hq
theorem it1 {α : Type} {b : Bool} {x y : Sem α} {Q : α → Shared → Prop} (e : b = true) (hq : wpAny M A x Q E ⟨h, g, d, tk, os⟩) : wpAny M A (if b = true then x else y) Q E ⟨h, g, d, tk, os⟩ := by
  subst e
  exact hq
theorem ex_get {a : Addr} {o : Obj} {name : Str} {r : Option Value} {Q : Option Value → Shared → Prop} (ho : h.get? a = some o) (e : nsLook name o = pure r) (hq : Q r ⟨h, g, d, tk, os⟩) : wpAny M A (nsGet a name) Q E ⟨h, g, d, tk, os⟩ := by
  unfold nsGet
  exact wpAny_bind (wpAny_loadPart ho (wpAny_of_eq e hq))
theorem ex_set {a : Addr} {c : Value} {dd : Option Addr} {es : Array DictEntry} {n : Nat} {sl : Array (Option Value)} {name : Str} {v : Value} {Q : Unit → Shared → Prop} (ho : h.get? a = some ⟨c, dd, .dict es n, sl⟩) (e : aRefKeyMayBeTheName name es = false)
    (hq : ∀ hs h', Heap.SameBut a h h' → h'.get? a = some (Obj.putName name hs (.str name tk) v ⟨c, dd, .dict es n, sl⟩) → Q () ⟨h', g, d, tk + 1, os⟩) : wpAny M A (nsSet a name v) Q E ⟨h, g, d, tk, os⟩ := by
  unfold nsSet strHash
  refine wpAny_bind (wpAny_bind (wpAny_askSetting (wpAny_pure ?_)))
  unfold mkText
  refine wpAny_bind (wpAny_bind (wpAny_fresh (wpAny_pure ?_)))
  refine wpAny_bind (wpAny_loadPart ho ?_)
  dsimp only
  rw [if_neg (by rw [e]; exact Bool.false_ne_true)]
  refine wpAny_updatePart ho ?_
  generalize (if name.cps.isEmpty = true then 0 else reduceHash (M.w.params.strHash name.cps)) = hv
  refine hq hv _ (Heap.SameBut.update ..) (Heap.get?_update_self _ ho ?_)
  unfold Obj.putName
  dsimp only
  split <;> rfl
theorem ex_setV {a : Addr} {c : Value} {dd : Option Addr} {es : Array DictEntry} {n : Nat} {sl : Array (Option Value)} {name : Str} {v : Value} {Q : Unit → Shared → Prop} (ho : h.get? a = some ⟨c, dd, .dict es n, sl⟩) (hz : es.size < 100) (e : aRefKeyMayBeTheName name es = false)
    (hq : ∀ hs h', Heap.SameBut a h h' → h'.get? a = some (Obj.putName name hs (.str name tk) v ⟨c, dd, .dict es n, sl⟩) → Q () ⟨h', g, d, tk + 1, os⟩) : wpAny M A (nsSetByValue a name v) Q E ⟨h, g, d, tk, os⟩ := by
  unfold nsSetByValue
  refine wpAny_bind (wpAny_loadPart ho ?_)
  dsimp only
  have hs : ¬ ((decide (es.size > sizeLine) && noSuchName name es) = true) := by
    rw [sizeLine_eq]
    have : decide (es.size > 2 ^ 24) = false := decide_eq_false (by lia)
    simp only [this, Bool.false_and]
    exact Bool.false_ne_true
  rw [if_neg hs]
  exact ex_set ho e hq
theorem ex_del {a : Addr} {o : Obj} {name : Str} {Q : Bool → Shared → Prop} (ho : h.get? a = some o) (e : nsHas name o = pure true) (hf : (Obj.dropName name o).isFreed = false)
    (hq : ∀ h', Heap.SameBut a h h' → h'.get? a = some (Obj.dropName name o) → Q true ⟨h', g, d, tk, os⟩) : wpAny M A (nsDel a name) Q E ⟨h, g, d, tk, os⟩ := by
  unfold nsDel
  refine wpAny_bind (wpAny_loadPart ho (wpAny_bind (wpAny_of_eq e ?_)))
  rw [if_pos rfl]
  exact wpAny_bind (wpAny_updatePart ho (wpAny_pure (hq _ (Heap.SameBut.update ..) (Heap.get?_update_self _ ho hf))))
theorem ex_slot {a : Addr} {c : Value} {dd : Option Addr} {cd : ClassData} {sl : Array (Option Value)} {i : Nat} {v : Option Value} {Q : Unit → Shared → Prop} (ho : h.get? a = some ⟨c, dd, .cls cd, sl⟩) (hi : i < 10)
    (hq : ∀ h', Heap.SameBut a h h' → h'.get? a = some ⟨c, dd, .cls cd, (sl ++ Array.replicate (i + 1 - sl.size) none).setIfInBounds i v⟩ → Q () ⟨h', g, d, tk, os⟩) : wpAny M A (setSlotAt a i v) Q E ⟨h, g, d, tk, os⟩ := by
  unfold setSlotAt
  have hs : ¬ (i ≥ sizeLine) := by rw [sizeLine_eq]; lia
  rw [if_neg hs]
  exact wpAny_updatePart ho (hq _ (Heap.SameBut.update ..) (Heap.get?_update_self _ ho rfl))
theorem ex_slotAt {a : Addr} {o : Obj} {i : Nat} {r : Option Value} {Q : Option Value → Shared → Prop} (ho : h.get? a = some o) (e : (o.slots[i]?).join = r) (hq : Q r ⟨h, g, d, tk, os⟩) : wpAny M A (slotAt a i) Q E ⟨h, g, d, tk, os⟩ := by
  unfold slotAt
  subst e
  exact wpAny_bind (wpAny_loadPart ho (wpAny_pure hq))
theorem ex_cls {a : Addr} {c : Value} {dd : Option Addr} {cd : ClassData} {sl : Array (Option Value)} {f : ClassData → ClassData} {Q : Unit → Shared → Prop} (ho : h.get? a = some ⟨c, dd, .cls cd, sl⟩) (hp : (Data.cls (f cd)).pastItsLine = none)
    (hq : ∀ h', Heap.SameBut a h h' → h'.get? a = some ⟨c, dd, .cls (f cd), sl⟩ → Q () ⟨h', g, d, tk, os⟩) : wpAny M A (updateCls a f) Q E ⟨h, g, d, tk, os⟩ := by
  unfold updateCls
  refine wpAny_bind (wpAny_load ho ?_)
  dsimp only
  have e := Heap.get?_update_self (Obj.mapCls f) ho rfl
  exact wpAny_bind (wpAny_update ho (wpAny_lookBehind (o := ⟨c, dd, .cls (f cd), sl⟩) e hp (hq _ (Heap.SameBut.update ..) e)))
theorem ex_lookup {C : Addr} {N : Addr} {oN : Obj} {name : Str} {r y : Option Value} {hd : Bool} {sn : List Str} {sl : Array (Option Value)} {Q : Option Value → Shared → Prop} (hC : h.get? C = some (clO (kcd N [.ref C, .type "object"] hd sn) sl)) (hN : h.get? N = some oN)
    (e : nsLook name oN = pure r) (hy : builtinOwn "object" name = y) (hq : Q (r.or y) ⟨h, g, d, tk, os⟩) : wpAny M A (typeLookup (.ref C) name) Q E ⟨h, g, d, tk, os⟩ := by
  unfold typeLookup
  refine wpAny_bind ?_
  unfold mroOf classData
  refine wpAny_bind (wpAny_bind (wpAny_load hC (wpAny_pure (wpAny_pure ?_))))
  rw [List.forIn_cons]
  refine wpAny_bind (wpAny_bind (wpAny_bind ?_))
  unfold classOwn classData
  refine wpAny_bind (wpAny_bind (wpAny_load hC (wpAny_pure (ex_get hN e ?_))))
  subst hy
  cases r with
  | some v => exact wpAny_pure (wpAny_pure (wpAny_pure hq))
  | none =>
    refine wpAny_pure ?_
    show wpAny _ _ (forIn [Value.type "object"] _ _) _ _ _
    rw [List.forIn_cons]
    refine wpAny_bind (wpAny_bind (wpAny_pure ?_))
    have hq' : Q (builtinOwn "object" name) ⟨h, g, d, tk, os⟩ := hq
    generalize builtinOwn "object" name = y at hq'
    cases y with
    | some v => exact wpAny_pure (wpAny_pure (wpAny_pure hq'))
    | none =>
      refine wpAny_pure ?_
      show wpAny _ _ (forIn [] _ _) _ _ _
      rw [List.forIn_nil]
      exact wpAny_pure (wpAny_pure hq')
theorem ex_each {α : Type} {f : α → PUnit → Sem (ForInStep PUnit)} {s : Shared} {Q : PUnit → Shared → Prop} : ∀ (es : List α), (∀ e ∈ es, ∀ (Q' : ForInStep PUnit → Shared → Prop), Q' (.yield PUnit.unit) s → wpAny M A (f e PUnit.unit) Q' E s) → Q PUnit.unit s → wpAny M A (forIn es PUnit.unit f) Q E s
  | [], _, hq => by rw [List.forIn_nil]; exact wpAny_pure hq
  | e :: es, hf, hq => by
    rw [List.forIn_cons]
    exact wpAny_bind (hf e (.head _) _ (ex_each es (fun e' he => hf e' (.tail _ he)) hq))
theorem ex_new {T : String} {data : Data} {Q : Value → Shared → Prop} (hd : sizeOk data) (hf : ({ cls := .type T, data } : Obj).isFreed = false)
    (hq : ∀ a h', (∀ b o, h.get? b = some o → h'.get? b = some o) → h'.get? a = some { cls := .type T, data } → h.get? a = none → Q (.ref a) ⟨h', g, d, tk, os⟩) : wpAny M A (newObj (.type T) data) Q E ⟨h, g, d, tk, os⟩ :=
  wpAny_newObj_type (hq _ _ (fun _ _ e => Heap.get?_push_of_some _ e) (Heap.get?_push_size _ hf) (Heap.get?_none_of_le (Nat.le_refl _))) hd
theorem ex_alloc {o : Obj} {Q : Addr → Shared → Prop} (hf : o.isFreed = false)
    (hq : ∀ a h', (∀ b o, h.get? b = some o → h'.get? b = some o) → h'.get? a = some o → h.get? a = none → Q a ⟨h', g, d, tk, os⟩) : wpAny M A (alloc o) Q E ⟨h, g, d, tk, os⟩ :=
  wpAny_alloc (hq _ _ (fun _ _ e => Heap.get?_push_of_some _ e) (Heap.get?_push_size _ hf) (Heap.get?_none_of_le (Nat.le_refl _)))
end
/-- two new objects, the dict and the class -/
structure Lg (h H : Heap) (N C : Addr) (oN oC : Obj) : Prop where
  kp : ∀ b o, h.get? b = some o → H.get? b = some o
  hN : H.get? N = some oN
  hC : H.get? C = some oC
  ne : N ≠ C
  N0 : h.get? N = none
  C0 : h.get? C = none
section
variable {h H H' : Heap} {N C : Addr} {oN oC o' : Obj}
theorem Lg.mk' {h₁ : Heap} (k₁ : ∀ b o, h.get? b = some o → h₁.get? b = some o) (e₁ : h₁.get? N = some oN) (n₁ : h.get? N = none) (k₂ : ∀ b o, h₁.get? b = some o → H.get? b = some o) (e₂ : H.get? C = some oC) (n₂ : h₁.get? C = none) : Lg h H N C oN oC := by
  refine ⟨fun b o q => k₂ b o (k₁ b o q), k₂ _ _ e₁, e₂, fun q => (by rw [q, n₂] at e₁; cases e₁), n₁, ?_⟩
  cases q : h.get? C with
  | none => rfl
  | some o => rw [k₁ _ _ q] at n₂; cases n₂
theorem Lg.updN (L : Lg h H N C oN oC) (s : Heap.SameBut N H H') (e : H'.get? N = some o') : Lg h H' N C o' oC :=
  ⟨fun b o q => (s.2 b (fun z => by rw [z, L.N0] at q; cases q)).trans (L.kp b o q), e, (s.2 C L.ne.symm).trans L.hC, L.ne, L.N0, L.C0⟩
theorem Lg.updC (L : Lg h H N C oN oC) (s : Heap.SameBut C H H') (e : H'.get? C = some o') : Lg h H' N C oN o' :=
  ⟨fun b o q => (s.2 b (fun z => by rw [z, L.C0] at q; cases q)).trans (L.kp b o q), (s.2 N L.ne).trans L.hN, e, L.ne, L.N0, L.C0⟩
theorem Lg.keeps (L : Lg h H N C oN oC) (k : ∀ b o, H.get? b = some o → H'.get? b = some o) : Lg h H' N C oN oC :=
  ⟨fun b o q => k b o (L.kp b o q), k _ _ L.hN, k _ _ L.hC, L.ne, L.N0, L.C0⟩
end
end Mine
end
section
open PySem PySem.W PySem.W.X PySem.Calls PyProof.Rows
set_option Elab.async false
set_option maxRecDepth 100000
set_option maxHeartbeats 0
set_option linter.unusedVariables false
namespace Mine
theorem xA {α : Type} {M : Model} {A : Around} {t : Sem α} {Q : α → Shared → Prop} {E : Value → Shared → Prop} {s : Shared} {n : Nat} (r : Rm A n) (h : wpAny M ⟨none, 900, none, none, 9000⟩ t Q E s) : wpAny M A t Q E s := fun Γ p hΓ =>
  h Γ p ⟨hΓ.1.trans r.1, Nat.le_trans hΓ.2.1 (by have := r.2.1; show A.depth ≤ 900; exact fk1 1 1 (.v 0) (.n 900) (.a (.a (.v 0) (.v 1)) (.n 1)) (.n 900) rfl [_, _] this), fun _ h => (nomatch h), fun _ h => (nomatch h), Nat.le_trans hΓ.2.2.2.2 (by have := r.2.2; show A.units ≤ 9000; exact fk1 1 1 (.v 0) (.n 9000) (.a (.a (.v 0) (.m 8 (.v 1))) (.n 1)) (.n 9000) rfl [_, _] this)⟩
noncomputable def PS (s : Shared) (C : Addr) (v : Value) (s' : Shared) : Prop := ∃ S h' tk', v = .ref S ∧ s' = { s with heap := h', toks := tk' } ∧ (∀ b o, s.heap.get? b = some o → h'.get? b = some o) ∧ h'.get? S = some { cls := .type "super", data := .fields #[.ref C, .ref C, .ref C] }
theorem mem_keep {h h' : Heap} {news : List (Addr × Obj)} (D : Mem h h' [] news) : ∀ b o, h.get? b = some o → h'.get? b = some o := fun b o e => D.keep b o e (by simp [away])
section
local macro_rules | `(tactic| x_close) => `(tactic| exact ⟨_, _, _, rfl, rfl, mem_keep (by assumption), Mem.at (by assumption) 0 _ _ rfl⟩)
theorem ck_super0 {w : World} {s : Shared} {E : Value → Shared → Prop} {C N : Addr} {sl : Array (Option Value)} {es : List DictEntry} {n : Nat} (hC : s.heap.get? C = some ⟨.type "type", none, .cls (kcd N [.ref C, .type "object"] false [Str.ofString "obj"]), sl⟩)
   : wpAny (model PR w) ⟨none, 900, none, none, 9000⟩ (call (.type "super") [.ref C, .ref C]) (PS s C) E s := by
  x_run
end
noncomputable def PI (s : Shared) (v : Value) (s' : Shared) : Prop := ∃ h' tk', s' = { s with heap := h', toks := tk' } ∧ (∀ b o, s.heap.get? b = some o → h'.get? b = some o)
section
local macro_rules | `(tactic| x_close) => `(tactic| first | exact ⟨_, _, rfl, mem_keep (by assumption)⟩ | exact ⟨_, _, rfl, fun _ _ e => e⟩)
theorem ck_isub0 {w : World} {s : Shared} {E : Value → Shared → Prop} {C N F bt : Addr} {tn tq : Tok} {es : Array DictEntry} {n : Nat}
   (hC : s.heap.get? C = some ⟨.type "type", none, .cls (kcd N [.ref C, .type "object"] false [Str.ofString "obj"]), #[some (.ref bt), none, some (.str (Str.ofString "K") tn), some (.str (Str.ofString "cmp_to_key.<locals>.K") tq), some (.builtin "object.__new__"), some (.bool false)]⟩)
   (hF : s.heap.get? F = some ⟨.type "builtin_function_or_method", none, .fields #[.builtin "object.__init_subclass__", .ref C], #[]⟩)
   : wpAny (model PR w) ⟨none, 900, none, none, 9000⟩ (call (.ref F) []) (PI s) E s := by
  x_run
end
noncomputable def PG (s : Shared) (C : Addr) (v : Value) (s' : Shared) : Prop := ∃ F h' tk', v = .ref F ∧ s' = { s with heap := h', toks := tk' } ∧ (∀ b o, s.heap.get? b = some o → h'.get? b = some o) ∧ h'.get? F = some ⟨.type "builtin_function_or_method", none, .fields #[.builtin "object.__init_subclass__", .ref C], #[]⟩
section
local macro_rules | `(tactic| x_close) => `(tactic| exact ⟨_, _, _, rfl, rfl, mem_keep (by assumption), Mem.at (by assumption) 0 _ _ rfl⟩)
theorem ck_cmget0 {w : World} {s : Shared} {E : Value → Shared → Prop} {C N : Addr} {sl : Array (Option Value)} (hC : s.heap.get? C = some ⟨.type "type", none, .cls (kcd N [.ref C, .type "object"] false [Str.ofString "obj"]), sl⟩)
   : wpAny (model PR w) ⟨none, 900, none, none, 9000⟩ (call (.builtin "classmethod_descriptor.__get__") [.builtin "object.__init_subclass__", .none, .ref C]) (PG s C) E s := by
  x_run
end
theorem slot_super_ga : Slot "super" "__getattribute__" "super.__getattribute__" :=
  .of (owner := "super") (n := "__getattribute__") (by rw [typeLookup_type, builtinLookup_eq_fast]; kernel_rfl) (by decide +kernel) (by decide +kernel) (by decide +kernel)
    (by first | exact .inl (by decide +kernel) | exact .inr (by decide +kernel)) (by rw [isSubtype_type]; kernel_rfl)
theorem entry_super_ga : entryFor table "super.__getattribute__" = some Builtin.«super.__getattribute__» := entryFor_of_tree (by kernel_rfl)
theorem args_super_ga (a b : Value) : argsOk "super.__getattribute__" ⟨[a, b], []⟩ := by unfold argsOk; kernel_rfl!
theorem r1 : typeLookup (.type "super") (Str.ofString "__getattribute__") = pure (some (.builtin "super.__getattribute__")) := by kernel_rfl!
set_option pp.deepTerms false in
set_option pp.maxSteps 3000 in
theorem ck_getsub {w : World} {A : Around} {E : Value → Shared → Prop} {h : Heap} {g : Array GenState} {d : Drawn} {tk : Nat} {os : OsState} {C N S : Addr} {sl : Array (Option Value)} {es : List DictEntry} {n : Nat} {Q : Value → Shared → Prop}
   (hC : h.get? C = some (clO (kcd N [.ref C, .type "object"] false [Str.ofString "obj"]) sl)) (hN : h.get? N = some (dcO es n)) (hl : nsLook (Str.ofString "__init_subclass__") (dcO es n) = pure none)
   (hS : h.get? S = some { cls := .type "super", data := .fields #[.ref C, .ref C, .ref C] }) (h2 : h.get? cStatics = some ⟨.none, none, .dict #[] 0, #[]⟩) (r : Rm A 3)
   (hQ : ∀ F h' tk', (∀ b o, h.get? b = some o → h'.get? b = some o) → h'.get? F = some ⟨.type "builtin_function_or_method", none, .fields #[.builtin "object.__init_subclass__", .ref C], #[]⟩ → Q (.ref F) ⟨h', g, d, tk', os⟩)
   : wpAny (model PR w) A (getAttr (.ref S) (Str.ofString "__init_subclass__")) Q E ⟨h, g, d, tk, os⟩ := by
  unfold getAttr mkText
  refine wpAny_bind (wpAny_bind (wpAny_fresh' (wpAny_pure ?_)))
  unfold getAttrBy
  refine wpAny_holding ?_
  have hT : (⟨h, g, d, tk + 1, os⟩ : Shared).TypeIs (.ref S) "super" := ⟨_, hS, rfl⟩
  (refine wpAny_bind (wpAny_typeOf hT ?_); (repeat ((fail_if_success (with_reducible show wpAny _ _ (_ >>= _) _ _ _)); (fail_if_success (with_reducible show wpAny _ _ (holding _ _) _ _ _)); (first | k_node | refine it0 (by kernel_rfl!) ?_ | refine it1 (by kernel_rfl!) ?_))))
  (refine wpAny_bind (wpAny_of_eq (by exact r1) ?_); (repeat ((fail_if_success (with_reducible show wpAny _ _ (_ >>= _) _ _ _)); (fail_if_success (with_reducible show wpAny _ _ (holding _ _) _ _ _)); (first | k_node | refine it0 (by kernel_rfl!) ?_ | refine it1 (by kernel_rfl!) ?_))))
  (refine wpAny_bind (wpAny_of_eq (a := none) (by kernel_rfl!) ?_); (repeat ((fail_if_success (with_reducible show wpAny _ _ (_ >>= _) _ _ _)); (fail_if_success (with_reducible show wpAny _ _ (holding _ _) _ _ _)); (first | k_node | refine it0 (by kernel_rfl!) ?_ | refine it1 (by kernel_rfl!) ?_))))
  refine wpAny_bind (wpAny_attempt (wpAny_holding ?_))
  unfold callGetattribute boundAndCalled
  (repeat ((fail_if_success (with_reducible show wpAny _ _ (_ >>= _) _ _ _)); (fail_if_success (with_reducible show wpAny _ _ (holding _ _) _ _ _)); (first | k_node | refine it0 (by kernel_rfl!) ?_ | refine it1 (by kernel_rfl!) ?_)))
  (refine wpAny_bind (wpAny_of_eq (a := (Value.builtin "super.__getattribute__", [Value.ref S])) (by kernel_rfl!) ?_); (repeat ((fail_if_success (with_reducible show wpAny _ _ (_ >>= _) _ _ _)); (fail_if_success (with_reducible show wpAny _ _ (holding _ _) _ _ _)); (first | k_node | refine it0 (by kernel_rfl!) ?_ | refine it1 (by kernel_rfl!) ?_))))
  show wpAny _ _ (call (.builtin "super.__getattribute__") [.ref S, .str (Str.ofString "__init_subclass__") tk]) _ _ _
  refine wpAny_call_entry slot_super_ga hT entry_super_ga ?_ (args_super_ga _ _)
  unfold Builtin.«super.__getattribute__»
  (repeat ((fail_if_success (with_reducible show wpAny _ _ (_ >>= _) _ _ _)); (fail_if_success (with_reducible show wpAny _ _ (holding _ _) _ _ _)); (first | k_node | refine it0 (by kernel_rfl!) ?_ | refine it1 (by kernel_rfl!) ?_)))
  (refine wpAny_bind (wpAny_pure ?_); (repeat ((fail_if_success (with_reducible show wpAny _ _ (_ >>= _) _ _ _)); (fail_if_success (with_reducible show wpAny _ _ (holding _ _) _ _ _)); (first | k_node | refine it0 (by kernel_rfl!) ?_ | refine it1 (by kernel_rfl!) ?_))))
  (refine wpAny_bind (wpAny_pure ?_); (repeat ((fail_if_success (with_reducible show wpAny _ _ (_ >>= _) _ _ _)); (fail_if_success (with_reducible show wpAny _ _ (holding _ _) _ _ _)); (first | k_node | refine it0 (by kernel_rfl!) ?_ | refine it1 (by kernel_rfl!) ?_))))
  (refine wpAny_bind (wpAny_field hS rfl rfl ?_); (repeat ((fail_if_success (with_reducible show wpAny _ _ (_ >>= _) _ _ _)); (fail_if_success (with_reducible show wpAny _ _ (holding _ _) _ _ _)); (first | k_node | refine it0 (by kernel_rfl!) ?_ | refine it1 (by kernel_rfl!) ?_))))
  (refine wpAny_bind (wpAny_field hS rfl rfl ?_); (repeat ((fail_if_success (with_reducible show wpAny _ _ (_ >>= _) _ _ _)); (fail_if_success (with_reducible show wpAny _ _ (holding _ _) _ _ _)); (first | k_node | refine it0 (by kernel_rfl!) ?_ | refine it1 (by kernel_rfl!) ?_))))
  (refine wpAny_bind (wpAny_field hS rfl rfl ?_); (repeat ((fail_if_success (with_reducible show wpAny _ _ (_ >>= _) _ _ _)); (fail_if_success (with_reducible show wpAny _ _ (holding _ _) _ _ _)); (first | k_node | refine it0 (by kernel_rfl!) ?_ | refine it1 (by kernel_rfl!) ?_))))
  refine wpAny_bind ?_
  unfold notOfAnOpaqueClass opaqueClassAbove anyOpaqueLoaded
  (refine wpAny_bind (wpAny_bind (wpAny_bind (ex_get h2 (r := none) (by kernel_rfl!) ?_))); (repeat ((fail_if_success (with_reducible show wpAny _ _ (_ >>= _) _ _ _)); (fail_if_success (with_reducible show wpAny _ _ (holding _ _) _ _ _)); (first | k_node | refine it0 (by kernel_rfl!) ?_ | refine it1 (by kernel_rfl!) ?_))))
  refine wpAny_bind ?_
  show wpAny _ _ (mroOf (.ref C)) _ _ _
  unfold mroOf classData
  refine wpAny_bind (wpAny_bind (wpAny_load hC (wpAny_pure (wpAny_pure ?_))))
  show wpAny _ _ (forIn (List.drop 1 (List.dropWhile (fun x => x != Value.ref C) [Value.ref C, Value.type "object"])) _ _ >>= _) _ _ _
  rw [show List.drop 1 (List.dropWhile (fun x => x != Value.ref C) [Value.ref C, Value.type "object"]) = [Value.type "object"] from by simp [List.dropWhile], List.forIn_cons]
  refine wpAny_bind (wpAny_bind (wpAny_bind (wpAny_of_eq (a := some (.builtin "object.__init_subclass__")) (by kernel_rfl!) ?_)))
  (repeat ((fail_if_success (with_reducible show wpAny _ _ (_ >>= _) _ _ _)); (fail_if_success (with_reducible show wpAny _ _ (holding _ _) _ _ _)); (first | k_node | refine it0 (by kernel_rfl!) ?_ | refine it1 (by kernel_rfl!) ?_)))
  (refine wpAny_bind (wpAny_of_eq (a := .type "classmethod_descriptor") (by kernel_rfl!) ?_); (repeat ((fail_if_success (with_reducible show wpAny _ _ (_ >>= _) _ _ _)); (fail_if_success (with_reducible show wpAny _ _ (holding _ _) _ _ _)); (first | k_node | refine it0 (by kernel_rfl!) ?_ | refine it1 (by kernel_rfl!) ?_))))
  (refine wpAny_bind (wpAny_of_eq (a := some (.builtin "classmethod_descriptor.__get__")) (by kernel_rfl!) ?_); (repeat ((fail_if_success (with_reducible show wpAny _ _ (_ >>= _) _ _ _)); (fail_if_success (with_reducible show wpAny _ _ (holding _ _) _ _ _)); (first | k_node | refine it0 (by kernel_rfl!) ?_ | refine it1 (by kernel_rfl!) ?_))))
  refine wpAny_bind (wpAny_holding ?_)
  show wpAny _ _ (call (.builtin "classmethod_descriptor.__get__") [.builtin "object.__init_subclass__", if (Value.ref C == Value.ref C) = true then .none else .ref C, .ref C]) _ _ _
  rw [if_pos (by simp)]
  refine wpAny_mono (xA r.in1 (ck_cmget0 (E := fun _ _ => False) hC)) ?_ fun _ _ e => e.elim
  rintro v s' ⟨F, h', tk', rfl, rfl, k, hF⟩
  refine wpAny_bind (wpAny_pure (wpAny_pure (wpAny_pure (wpAny_pure ⟨_, rfl, ?_⟩))))
  exact wpAny_pure (hQ F h' tk' k hF)
end Mine
end
section
open PySem PySem.W PySem.Calls PyProof.Rows
set_option Elab.async false
set_option maxRecDepth 100000
set_option maxHeartbeats 8000000
set_option linter.unusedVariables false
namespace Mine
theorem p1 : isSubtype (.type "tuple") (.type "tuple") = pure true := by kernel_rfl
theorem p2 : isSubtype (.type "dict") (.type "dict") = pure true := by kernel_rfl
theorem p3 : isSubtype (.type "type") (.type "type") = pure true := by kernel_rfl
theorem p5 : Builtin.notOverATurnedClass [.type "object"] = pure () := by kernel_rfl
theorem p6 : Builtin.extendedBase [.type "object"] = pure (.type "object") := by kernel_rfl
theorem p7 : typeLookup (.type "dict") (Str.ofString "__iter__") = pure (some (.builtin "dict.__iter__")) := by kernel_rfl
theorem p8 : Builtin.Slots.bestBase [.type "object"] = pure (.type "object") := by kernel_rfl
theorem p9 : Builtin.Slots.slotNamesOf (.type "object") = pure [] := by kernel_rfl
theorem p10 : Builtin.Slots.givesDict (.type "object") = pure false := by kernel_rfl
theorem p11 : Builtin.Slots.givesWeak (.type "object") = pure false := by kernel_rfl
theorem p12 : Builtin.Slots.varSize (.type "object") = pure false := by kernel_rfl
theorem p13 : Builtin.mroHook? (.type "type") = pure none := by kernel_rfl
theorem p14 : Builtin.linearize [.type "object"] mroOf = pure [.type "object"] := by kernel_rfl
theorem p15 : Bind.madeBy (.type "object") = pure (some "object.__new__") := by kernel_rfl
theorem p16 : isType (.type "object") = pure true := by kernel_rfl
theorem p17 : typeOf (.type "object") = pure (.type "type") := by kernel_rfl
section
variable {w : World} {A : Around} {s : Shared} {E : Value → Shared → Prop}
theorem q1 : typeLookup (.type "function") (Str.ofString "__set_name__") = pure none := by kernel_rfl!
theorem q2 : typeLookup (.type "tuple") (Str.ofString "__set_name__") = pure none := by kernel_rfl!
theorem q3 : typeLookup (.type "list") (Str.ofString "__set_name__") = pure none := by kernel_rfl!
theorem q4 : typeLookup (.type "member_descriptor") (Str.ofString "__set_name__") = pure none := by kernel_rfl!
theorem q5 {x : Str} {t : Tok} : specialOf (.str x t) (Str.ofString "__set_name__") = pure none := by kernel_rfl!
theorem q6 {x : Int} {t : Tok} : specialOf (.int x t) (Str.ofString "__set_name__") = pure none := by kernel_rfl!
theorem q7 : specialOf .none (Str.ofString "__set_name__") = pure none := by kernel_rfl!
theorem ex_asStr {a : Addr} {x : String} {xs : Array Value} {n : Nat} {Q : Option Str → Shared → Prop} (ho : s.heap.get? a = some (seqObj x xs n)) (h : Q none s) : wpAny (model PR w) A (asStr? (.ref a)) Q E s := by
  unfold asStr?
  exact wpAny_bind (wpAny_load ho (wpAny_pure h))
noncomputable abbrev planK : Builtin.Slots.Plan := { names := [Str.ofString "obj"], dict := false, weak := false, inherited := [] }
set_option pp.deepTerms false in
set_option pp.maxSteps 3000 in
theorem ck_read {c : CV} {to : Tok} {Q : Builtin.Slots.Plan → Shared → Prop} (hsl : s.heap.get? c.sl = some (seqObj "list" #[.str (Str.ofString "obj") to] 0))
    (hQ : ∀ h', (∀ b o, s.heap.get? b = some o → h'.get? b = some o) → Q planK { s with heap := h' }) :
    wpAny (model PR w) A (Builtin.Slots.read (Str.ofString "K") [.type "object"] c.es12.toArray) Q E s := by
  have hl : s.heap.IsList c.sl [Value.str (Str.ofString "obj") to].toArray := ⟨_, hsl, rfl, _, rfl⟩
  have hf : c.es12.toArray.find? (fun x => x.key.isStr (Str.ofString "__slots__")) = some (ent (c.hs 3) "__slots__" (c.ts 3) (.ref c.sl)) := by kernel_rfl
  unfold Builtin.Slots.read
  (refine wpAny_bind (wpAny_of_eq (by exact p8) ?_); (repeat ((fail_if_success (with_reducible show wpAny _ _ (_ >>= _) _ _ _)); (fail_if_success (with_reducible show wpAny _ _ (holding _ _) _ _ _)); (first | k_node | refine it0 (by kernel_rfl!) ?_ | refine it1 (by kernel_rfl!) ?_))))
  (refine wpAny_bind (wpAny_of_eq (by exact p9) ?_); (repeat ((fail_if_success (with_reducible show wpAny _ _ (_ >>= _) _ _ _)); (fail_if_success (with_reducible show wpAny _ _ (holding _ _) _ _ _)); (first | k_node | refine it0 (by kernel_rfl!) ?_ | refine it1 (by kernel_rfl!) ?_))))
  (refine wpAny_bind (wpAny_of_eq (by exact p10) ?_); (repeat ((fail_if_success (with_reducible show wpAny _ _ (_ >>= _) _ _ _)); (fail_if_success (with_reducible show wpAny _ _ (holding _ _) _ _ _)); (first | k_node | refine it0 (by kernel_rfl!) ?_ | refine it1 (by kernel_rfl!) ?_))))
  (refine wpAny_bind (wpAny_of_eq (by exact p11) ?_); (repeat ((fail_if_success (with_reducible show wpAny _ _ (_ >>= _) _ _ _)); (fail_if_success (with_reducible show wpAny _ _ (holding _ _) _ _ _)); (first | k_node | refine it0 (by kernel_rfl!) ?_ | refine it1 (by kernel_rfl!) ?_))))
  refine wpAny_bind (wpAny_of_eq (by exact p12) ?_)
  rw [hf]
  (repeat ((fail_if_success (with_reducible show wpAny _ _ (_ >>= _) _ _ _)); (fail_if_success (with_reducible show wpAny _ _ (holding _ _) _ _ _)); (first | k_node | refine it0 (by kernel_rfl!) ?_ | refine it1 (by kernel_rfl!) ?_)))
  (refine wpAny_bind (wpAny_rule ?_); (repeat ((fail_if_success (with_reducible show wpAny _ _ (_ >>= _) _ _ _)); (fail_if_success (with_reducible show wpAny _ _ (holding _ _) _ _ _)); (first | k_node | refine it0 (by kernel_rfl!) ?_ | refine it1 (by kernel_rfl!) ?_))))
  (refine wpAny_bind (ex_asStr hsl ?_); (repeat ((fail_if_success (with_reducible show wpAny _ _ (_ >>= _) _ _ _)); (fail_if_success (with_reducible show wpAny _ _ (holding _ _) _ _ _)); (first | k_node | refine it0 (by kernel_rfl!) ?_ | refine it1 (by kernel_rfl!) ?_))))
  (refine wpAny_bind (collect_list hl ?_ (by rw [sizeLine_eq]; show 1 ≤ _; exact fk0 1 (.n 1) (.n 16777216) rfl [])); (repeat ((fail_if_success (with_reducible show wpAny _ _ (_ >>= _) _ _ _)); (fail_if_success (with_reducible show wpAny _ _ (holding _ _) _ _ _)); (first | k_node | refine it0 (by kernel_rfl!) ?_ | refine it1 (by kernel_rfl!) ?_))))
  (refine wpAny_bind (wpAny_of_eq (by exact p12) ?_); (repeat ((fail_if_success (with_reducible show wpAny _ _ (_ >>= _) _ _ _)); (fail_if_success (with_reducible show wpAny _ _ (holding _ _) _ _ _)); (first | k_node | refine it0 (by kernel_rfl!) ?_ | refine it1 (by kernel_rfl!) ?_))))
  (refine wpAny_bind (wpAny_of_eq (a := (false, false, #[Str.ofString "obj"], ([] : List Str))) (by kernel_rfl!) ?_); (repeat ((fail_if_success (with_reducible show wpAny _ _ (_ >>= _) _ _ _)); (fail_if_success (with_reducible show wpAny _ _ (holding _ _) _ _ _)); (first | k_node | refine it0 (by kernel_rfl!) ?_ | refine it1 (by kernel_rfl!) ?_))))
  (refine wpAny_bind (wpAny_of_eq (a := ([Str.ofString "obj"], 3)) (by kernel_rfl!) ?_); (repeat ((fail_if_success (with_reducible show wpAny _ _ (_ >>= _) _ _ _)); (fail_if_success (with_reducible show wpAny _ _ (holding _ _) _ _ _)); (first | k_node | refine it0 (by kernel_rfl!) ?_ | refine it1 (by kernel_rfl!) ?_))))
  (refine wpAny_bind (wpAny_of_eq (a := (false, false)) (by kernel_rfl!) ?_); (repeat ((fail_if_success (with_reducible show wpAny _ _ (_ >>= _) _ _ _)); (fail_if_success (with_reducible show wpAny _ _ (holding _ _) _ _ _)); (first | k_node | refine it0 (by kernel_rfl!) ?_ | refine it1 (by kernel_rfl!) ?_))))
  refine hQ _ fun b o q => ?_
  have hlt : b < s.heap.objs.size := Heap.lt_size q
  rw [Heap.get?_update_ne _ _ _ _ (Nat.ne_of_lt hlt), Heap.get?_push_ne _ _ _ (Nat.ne_of_lt hlt)]
  exact q
set_option pp.deepTerms false in
set_option pp.maxSteps 3000 in
theorem ck_new {c : CV} {bt ns : Addr} {tn to : Tok} {ep : Nat} {Q : PySem.Fin → Shared → Prop}
    (hb : s.heap.get? bt = some (seqObj "tuple" #[.type "object"] 0)) (hn : s.heap.get? ns = some (dcO c.es12 ep)) (hns : (ns == sysModules) = false) (hfun : ∀ f ∈ [c.fi, c.fl, c.fg, c.fe, c.fle, c.fge], ∃ o, s.heap.get? f = some o ∧ o.cls = .type "function") {oT : Obj} (hst : s.heap.get? c.st = some oT) (hsc : oT.cls = .type "tuple")
    (hsl : s.heap.get? c.sl = some (seqObj "list" #[.str (Str.ofString "obj") to] 0))
    (h2 : s.heap.get? cStatics = some ⟨.none, none, .dict #[] 0, #[]⟩) (r : Rm A 4)
    (hQ : ∀ C N md hO tO t1 hD tD h' tk', (∀ b o, s.heap.get? b = some o → h'.get? b = some o) →
      h'.get? C = some (clO (kcd N [.ref C, .type "object"] false [Str.ofString "obj"]) #[some (.ref bt), none, some (.str (Str.ofString "K") tn), some c.qv, some (.builtin "object.__new__"), some (.bool false)]) →
      h'.get? N = some (dcO (c.esD hO tO md hD tD) 3) → h'.get? md = some (mdO t1 C) → s.heap.get? C = none → s.heap.get? N = none → s.heap.get? md = none → Q (.done (.ret (.ref C))) { s with heap := h', toks := tk' }) :
    wpAny (model PR w) A (Builtin.«type.__new__» ⟨[.type "type", .str (Str.ofString "K") tn, .ref bt, .ref ns], []⟩) Q E s := by
  obtain ⟨h, g, d, tk, os⟩ := s
  have hT1 : (⟨h, g, d, tk, os⟩ : Shared).TypeIs (.ref bt) "tuple" := ⟨_, hb, rfl⟩
  have hT2 : (⟨h, g, d, tk, os⟩ : Shared).TypeIs (.ref ns) "dict" := ⟨_, hn, rfl⟩
  unfold Builtin.«type.__new__»
  (repeat ((fail_if_success (with_reducible show wpAny _ _ (_ >>= _) _ _ _)); (fail_if_success (with_reducible show wpAny _ _ (holding _ _) _ _ _)); (first | k_node | refine it0 (by kernel_rfl!) ?_ | refine it1 (by kernel_rfl!) ?_)))
  (refine wpAny_bind (wpAny_pure ?_); (repeat ((fail_if_success (with_reducible show wpAny _ _ (_ >>= _) _ _ _)); (fail_if_success (with_reducible show wpAny _ _ (holding _ _) _ _ _)); (first | k_node | refine it0 (by kernel_rfl!) ?_ | refine it1 (by kernel_rfl!) ?_))))
  (refine wpAny_bind (wpAny_isInstance hT1 p1 ?_); (repeat ((fail_if_success (with_reducible show wpAny _ _ (_ >>= _) _ _ _)); (fail_if_success (with_reducible show wpAny _ _ (holding _ _) _ _ _)); (first | k_node | refine it0 (by kernel_rfl!) ?_ | refine it1 (by kernel_rfl!) ?_))))
  (refine wpAny_bind (wpAny_isInstance hT2 p2 ?_); (repeat ((fail_if_success (with_reducible show wpAny _ _ (_ >>= _) _ _ _)); (fail_if_success (with_reducible show wpAny _ _ (holding _ _) _ _ _)); (first | k_node | refine it0 (by kernel_rfl!) ?_ | refine it1 (by kernel_rfl!) ?_))))
  (refine wpAny_bind (wpAny_seqItems hb rfl ?_); (repeat ((fail_if_success (with_reducible show wpAny _ _ (_ >>= _) _ _ _)); (fail_if_success (with_reducible show wpAny _ _ (holding _ _) _ _ _)); (first | k_node | refine it0 (by kernel_rfl!) ?_ | refine it1 (by kernel_rfl!) ?_))))
  (refine wpAny_bind (wpAny_of_eq (a := PUnit.unit) (by kernel_rfl!) ?_); (repeat ((fail_if_success (with_reducible show wpAny _ _ (_ >>= _) _ _ _)); (fail_if_success (with_reducible show wpAny _ _ (holding _ _) _ _ _)); (first | k_node | refine it0 (by kernel_rfl!) ?_ | refine it1 (by kernel_rfl!) ?_))))
  (refine wpAny_bind (wpAny_of_eq (a := Value.type "type") (by kernel_rfl!) ?_); (repeat ((fail_if_success (with_reducible show wpAny _ _ (_ >>= _) _ _ _)); (fail_if_success (with_reducible show wpAny _ _ (holding _ _) _ _ _)); (first | k_node | refine it0 (by kernel_rfl!) ?_ | refine it1 (by kernel_rfl!) ?_))))
  (refine wpAny_bind (wpAny_of_eq (by exact p5) ?_); (repeat ((fail_if_success (with_reducible show wpAny _ _ (_ >>= _) _ _ _)); (fail_if_success (with_reducible show wpAny _ _ (holding _ _) _ _ _)); (first | k_node | refine it0 (by kernel_rfl!) ?_ | refine it1 (by kernel_rfl!) ?_))))
  (refine wpAny_bind (wpAny_of_eq (by exact p6) ?_); (repeat ((fail_if_success (with_reducible show wpAny _ _ (_ >>= _) _ _ _)); (fail_if_success (with_reducible show wpAny _ _ (holding _ _) _ _ _)); (first | k_node | refine it0 (by kernel_rfl!) ?_ | refine it1 (by kernel_rfl!) ?_))))
  rw [if_neg (by rw [hns]; exact Bool.false_ne_true)]
  (repeat ((fail_if_success (with_reducible show wpAny _ _ (_ >>= _) _ _ _)); (fail_if_success (with_reducible show wpAny _ _ (holding _ _) _ _ _)); (first | k_node | refine it0 (by kernel_rfl!) ?_ | refine it1 (by kernel_rfl!) ?_)))
  (refine wpAny_bind (wpAny_dictEntries hn rfl ?_); (repeat ((fail_if_success (with_reducible show wpAny _ _ (_ >>= _) _ _ _)); (fail_if_success (with_reducible show wpAny _ _ (holding _ _) _ _ _)); (first | k_node | refine it0 (by kernel_rfl!) ?_ | refine it1 (by kernel_rfl!) ?_))))
  (refine wpAny_bind (wpAny_specialOf hT2 p7 ?_); (repeat ((fail_if_success (with_reducible show wpAny _ _ (_ >>= _) _ _ _)); (fail_if_success (with_reducible show wpAny _ _ (holding _ _) _ _ _)); (first | k_node | refine it0 (by kernel_rfl!) ?_ | refine it1 (by kernel_rfl!) ?_))))
  (refine wpAny_bind (wpAny_pure ?_); (repeat ((fail_if_success (with_reducible show wpAny _ _ (_ >>= _) _ _ _)); (fail_if_success (with_reducible show wpAny _ _ (holding _ _) _ _ _)); (first | k_node | refine it0 (by kernel_rfl!) ?_ | refine it1 (by kernel_rfl!) ?_))))
  refine wpAny_bind (wpAny_holding (ck_read hsl fun h₁ k₁ => ?_))
  (repeat ((fail_if_success (with_reducible show wpAny _ _ (_ >>= _) _ _ _)); (fail_if_success (with_reducible show wpAny _ _ (holding _ _) _ _ _)); (first | k_node | refine it0 (by kernel_rfl!) ?_ | refine it1 (by kernel_rfl!) ?_)))
  (refine wpAny_bind (ex_new (by show c.es12.toArray.size ≤ _; rw [sizeLine_eq]; show 12 ≤ _; exact fk0 1 (.n 12) (.a (.n 16777216) (.n 1)) rfl []) rfl fun N h₂ k₂ hN N0 => ?_); (repeat ((fail_if_success (with_reducible show wpAny _ _ (_ >>= _) _ _ _)); (fail_if_success (with_reducible show wpAny _ _ (holding _ _) _ _ _)); (first | k_node | refine it0 (by kernel_rfl!) ?_ | refine it1 (by kernel_rfl!) ?_))))
  (refine wpAny_bind (wpAny_of_eq (a := ()) (by kernel_rfl!) ?_); (repeat ((fail_if_success (with_reducible show wpAny _ _ (_ >>= _) _ _ _)); (fail_if_success (with_reducible show wpAny _ _ (holding _ _) _ _ _)); (first | k_node | refine it0 (by kernel_rfl!) ?_ | refine it1 (by kernel_rfl!) ?_))))
  (refine wpAny_bind (ex_get hN (r := some c.qv) (by kernel_rfl!) ?_); (repeat ((fail_if_success (with_reducible show wpAny _ _ (_ >>= _) _ _ _)); (fail_if_success (with_reducible show wpAny _ _ (holding _ _) _ _ _)); (first | k_node | refine it0 (by kernel_rfl!) ?_ | refine it1 (by kernel_rfl!) ?_))))
  (refine wpAny_bind (ex_get hN (r := some c.qv) (by kernel_rfl!) ?_); (repeat ((fail_if_success (with_reducible show wpAny _ _ (_ >>= _) _ _ _)); (fail_if_success (with_reducible show wpAny _ _ (holding _ _) _ _ _)); (first | k_node | refine it0 (by kernel_rfl!) ?_ | refine it1 (by kernel_rfl!) ?_))))
  (refine wpAny_bind (wpAny_pure ?_); (repeat ((fail_if_success (with_reducible show wpAny _ _ (_ >>= _) _ _ _)); (fail_if_success (with_reducible show wpAny _ _ (holding _ _) _ _ _)); (first | k_node | refine it0 (by kernel_rfl!) ?_ | refine it1 (by kernel_rfl!) ?_))))
  (refine wpAny_bind (wpAny_pure ?_); (repeat ((fail_if_success (with_reducible show wpAny _ _ (_ >>= _) _ _ _)); (fail_if_success (with_reducible show wpAny _ _ (holding _ _) _ _ _)); (first | k_node | refine it0 (by kernel_rfl!) ?_ | refine it1 (by kernel_rfl!) ?_))))
  (refine wpAny_bind (ex_get hN (r := none) (by kernel_rfl!) ?_); (repeat ((fail_if_success (with_reducible show wpAny _ _ (_ >>= _) _ _ _)); (fail_if_success (with_reducible show wpAny _ _ (holding _ _) _ _ _)); (first | k_node | refine it0 (by kernel_rfl!) ?_ | refine it1 (by kernel_rfl!) ?_))))
  (refine wpAny_bind (ex_alloc rfl fun C h₃ k₃ hC C0 => ?_); (repeat ((fail_if_success (with_reducible show wpAny _ _ (_ >>= _) _ _ _)); (fail_if_success (with_reducible show wpAny _ _ (holding _ _) _ _ _)); (first | k_node | refine it0 (by kernel_rfl!) ?_ | refine it1 (by kernel_rfl!) ?_))))
  have L := Lg.mk' (fun b o q => k₂ b o (k₁ b o q)) hN (show h.get? N = none from by cases q : h.get? N with | none => rfl | some o => rw [k₁ _ _ q] at N0; cases N0) k₃ hC C0
  clear hN hC N0 C0 k₂ k₃
  replace L : Lg h h₃ N C (dcO c.es12 0) (clO (kcd N [] true []) #[]) := L
  refine wpAny_bind (ex_slot L.hC (by exact fk0 1 (.a (.n 0) (.n 1)) (.n 10) rfl []) fun h₄ s₄ e₄ => ?_)
  replace L : Lg h h₄ N C (dcO c.es12 0) (clO (kcd N [] true []) #[some (.ref bt)]) := L.updC s₄ e₄
  clear s₄ e₄
  (repeat ((fail_if_success (with_reducible show wpAny _ _ (_ >>= _) _ _ _)); (fail_if_success (with_reducible show wpAny _ _ (holding _ _) _ _ _)); (first | k_node | refine it0 (by kernel_rfl!) ?_ | refine it1 (by kernel_rfl!) ?_)))
  refine wpAny_bind (ex_slot L.hC (by exact fk0 1 (.a (.n 2) (.n 1)) (.n 10) rfl []) fun h₅ s₅ e₅ => ?_)
  replace L : Lg h h₅ N C (dcO c.es12 0) (clO (kcd N [] true []) #[some (.ref bt), none, some (.str (Str.ofString "K") tn)]) := L.updC s₅ e₅
  clear s₅ e₅
  (repeat ((fail_if_success (with_reducible show wpAny _ _ (_ >>= _) _ _ _)); (fail_if_success (with_reducible show wpAny _ _ (holding _ _) _ _ _)); (first | k_node | refine it0 (by kernel_rfl!) ?_ | refine it1 (by kernel_rfl!) ?_)))
  refine wpAny_bind (ex_slot L.hC (by exact fk0 1 (.a (.n 3) (.n 1)) (.n 10) rfl []) fun h₆ s₆ e₆ => ?_)
  replace L : Lg h h₆ N C (dcO c.es12 0) (clO (kcd N [] true []) #[some (.ref bt), none, some (.str (Str.ofString "K") tn), some c.qv]) := L.updC s₆ e₆
  clear s₆ e₆
  (repeat ((fail_if_success (with_reducible show wpAny _ _ (_ >>= _) _ _ _)); (fail_if_success (with_reducible show wpAny _ _ (holding _ _) _ _ _)); (first | k_node | refine it0 (by kernel_rfl!) ?_ | refine it1 (by kernel_rfl!) ?_)))
  refine wpAny_bind (ex_del L.hN (by kernel_rfl!) rfl fun h₇ s₇ e₇ => ?_)
  replace e₇ : h₇.get? N = some (dcO c.es11 1) := e₇.trans (by kernel_rfl!)
  replace L : Lg h h₇ N C (dcO c.es11 1) (clO (kcd N [] true []) #[some (.ref bt), none, some (.str (Str.ofString "K") tn), some c.qv]) := L.updN s₇ e₇
  clear s₇ e₇
  (repeat ((fail_if_success (with_reducible show wpAny _ _ (_ >>= _) _ _ _)); (fail_if_success (with_reducible show wpAny _ _ (holding _ _) _ _ _)); (first | k_node | refine it0 (by kernel_rfl!) ?_ | refine it1 (by kernel_rfl!) ?_)))
  (refine wpAny_bind (ex_get L.hN (r := none) (by kernel_rfl!) ?_); (repeat ((fail_if_success (with_reducible show wpAny _ _ (_ >>= _) _ _ _)); (fail_if_success (with_reducible show wpAny _ _ (holding _ _) _ _ _)); (first | k_node | refine it0 (by kernel_rfl!) ?_ | refine it1 (by kernel_rfl!) ?_))))
  refine wpAny_bind ?_
  rw [List.forIn_cons]
  (refine wpAny_bind (wpAny_bind (ex_get L.hN (r := none) (by kernel_rfl!) (wpAny_pure ?_))); (repeat ((fail_if_success (with_reducible show wpAny _ _ (_ >>= _) _ _ _)); (fail_if_success (with_reducible show wpAny _ _ (holding _ _) _ _ _)); (first | k_node | refine it0 (by kernel_rfl!) ?_ | refine it1 (by kernel_rfl!) ?_))))
  (refine wpAny_bind (wpAny_bind (ex_get L.hN (r := none) (by kernel_rfl!) (wpAny_pure ?_))); (repeat ((fail_if_success (with_reducible show wpAny _ _ (_ >>= _) _ _ _)); (fail_if_success (with_reducible show wpAny _ _ (holding _ _) _ _ _)); (first | k_node | refine it0 (by kernel_rfl!) ?_ | refine it1 (by kernel_rfl!) ?_))))
  (refine wpAny_bind (ex_get L.hN (r := none) (by kernel_rfl!) ?_); (repeat ((fail_if_success (with_reducible show wpAny _ _ (_ >>= _) _ _ _)); (fail_if_success (with_reducible show wpAny _ _ (holding _ _) _ _ _)); (first | k_node | refine it0 (by kernel_rfl!) ?_ | refine it1 (by kernel_rfl!) ?_))))
  (refine wpAny_bind (ex_get L.hN (r := none) (by kernel_rfl!) ?_); (repeat ((fail_if_success (with_reducible show wpAny _ _ (_ >>= _) _ _ _)); (fail_if_success (with_reducible show wpAny _ _ (holding _ _) _ _ _)); (first | k_node | refine it0 (by kernel_rfl!) ?_ | refine it1 (by kernel_rfl!) ?_))))
  (refine wpAny_bind (wpAny_of_eq (by exact p13) ?_); (repeat ((fail_if_success (with_reducible show wpAny _ _ (_ >>= _) _ _ _)); (fail_if_success (with_reducible show wpAny _ _ (holding _ _) _ _ _)); (first | k_node | refine it0 (by kernel_rfl!) ?_ | refine it1 (by kernel_rfl!) ?_))))
  (refine wpAny_bind (wpAny_of_eq (by exact p14) ?_); (repeat ((fail_if_success (with_reducible show wpAny _ _ (_ >>= _) _ _ _)); (fail_if_success (with_reducible show wpAny _ _ (holding _ _) _ _ _)); (first | k_node | refine it0 (by kernel_rfl!) ?_ | refine it1 (by kernel_rfl!) ?_))))
  refine wpAny_bind (wpAny_pure ?_)
  refine wpAny_bind ?_
  rw [show List.filter (fun x => x != Value.ref C) [Value.ref C, Value.type "object"] = [Value.type "object"] from by simp]
  refine wpAny_of_eq (a := false) (by kernel_rfl!) ?_
  refine wpAny_bind (ex_cls L.hC (by kernel_rfl!) fun h₈ s₈ e₈ => ?_)
  replace e₈ : h₈.get? C = some (clO (kcd N [.ref C, .type "object"] true []) #[some (.ref bt), none, some (.str (Str.ofString "K") tn), some c.qv]) := e₈.trans (by kernel_rfl!)
  replace L := L.updC s₈ e₈
  clear s₈ e₈
  (refine wpAny_bind (wpAny_of_eq (by exact p15) ?_); (repeat ((fail_if_success (with_reducible show wpAny _ _ (_ >>= _) _ _ _)); (fail_if_success (with_reducible show wpAny _ _ (holding _ _) _ _ _)); (first | k_node | refine it0 (by kernel_rfl!) ?_ | refine it1 (by kernel_rfl!) ?_))))
  refine wpAny_bind (ex_slot L.hC (by exact fk0 1 (.a (.n 4) (.n 1)) (.n 10) rfl []) fun h₉ s₉ e₉ => ?_)
  replace L : Lg h h₉ N C (dcO c.es11 1) (clO (kcd N [.ref C, .type "object"] true []) #[some (.ref bt), none, some (.str (Str.ofString "K") tn), some c.qv, some (.builtin "object.__new__")]) := L.updC s₉ e₉
  clear s₉ e₉
  refine wpAny_bind ?_
  unfold Bind.refreshMaker
  (refine wpAny_bind (ex_slotAt L.hC (r := some (.builtin "object.__new__")) rfl ?_); (repeat ((fail_if_success (with_reducible show wpAny _ _ (_ >>= _) _ _ _)); (fail_if_success (with_reducible show wpAny _ _ (holding _ _) _ _ _)); (first | k_node | refine it0 (by kernel_rfl!) ?_ | refine it1 (by kernel_rfl!) ?_))))
  (refine wpAny_bind (ex_lookup L.hC L.hN (r := none) (y := some (.builtin "object.__new__")) (by kernel_rfl!) (by kernel_rfl!) ?_); (repeat ((fail_if_success (with_reducible show wpAny _ _ (_ >>= _) _ _ _)); (fail_if_success (with_reducible show wpAny _ _ (holding _ _) _ _ _)); (first | k_node | refine it0 (by kernel_rfl!) ?_ | refine it1 (by kernel_rfl!) ?_))))
  refine wpAny_bind ?_
  unfold Builtin.Slots.install
  (repeat ((fail_if_success (with_reducible show wpAny _ _ (_ >>= _) _ _ _)); (fail_if_success (with_reducible show wpAny _ _ (holding _ _) _ _ _)); (first | k_node | refine it0 (by kernel_rfl!) ?_ | refine it1 (by kernel_rfl!) ?_)))
  refine wpAny_bind ?_
  rw [List.forIn_cons]
  (refine wpAny_bind (wpAny_bind (ex_get L.hN (r := none) (by kernel_rfl!) ?_)); (repeat ((fail_if_success (with_reducible show wpAny _ _ (_ >>= _) _ _ _)); (fail_if_success (with_reducible show wpAny _ _ (holding _ _) _ _ _)); (first | k_node | refine it0 (by kernel_rfl!) ?_ | refine it1 (by kernel_rfl!) ?_))))
  (refine wpAny_bind (wpAny_mkStr' ?_ (by rw [sizeLine_eq]; show 3 ≤ _; exact fk0 1 (.n 3) (.n 16777216) rfl [])); (repeat ((fail_if_success (with_reducible show wpAny _ _ (_ >>= _) _ _ _)); (fail_if_success (with_reducible show wpAny _ _ (holding _ _) _ _ _)); (first | k_node | refine it0 (by kernel_rfl!) ?_ | refine it1 (by kernel_rfl!) ?_))))
  refine wpAny_bind (show wpAny _ _ (newObj _ _) _ _ _ from ex_new (by show 5 ≤ _; rw [sizeLine_eq]; exact fk0 1 (.n 5) (.a (.n 16777216) (.n 2)) rfl []) rfl fun md h₁₀ k₁₀ hmd md0 => ?_)
  have mN : md ≠ N := fun q => by rw [q, L.hN] at md0; cases md0
  have mC : md ≠ C := fun q => by rw [q, L.hC] at md0; cases md0
  have mh : h.get? md = none := by
    cases q : h.get? md with
    | none => rfl
    | some o => rw [L.kp _ _ q] at md0; cases md0
  replace L := L.keeps k₁₀
  clear k₁₀ md0
  replace hmd : h₁₀.get? md = some (mdO tk C) := hmd.trans (by kernel_rfl!)
  refine wpAny_bind (ex_setV L.hN (by show 11 < _; exact fk0 1 (.a (.n 11) (.n 1)) (.n 100) rfl []) (by kernel_rfl!) fun hO h₁₁ s₁₁ e₁₁ => ?_)
  replace e₁₁ : h₁₁.get? N = some (dcO (c.esO hO (tk + 1) md) 2) := e₁₁.trans (by kernel_rfl!)
  replace L := L.updN s₁₁ e₁₁
  replace hmd := (s₁₁.2 md mN).trans hmd
  clear s₁₁ e₁₁
  (repeat ((fail_if_success (with_reducible show wpAny _ _ (_ >>= _) _ _ _)); (fail_if_success (with_reducible show wpAny _ _ (holding _ _) _ _ _)); (first | k_node | refine it0 (by kernel_rfl!) ?_ | refine it1 (by kernel_rfl!) ?_)))
  refine wpAny_bind (wpAny_of_eq (a := false) (by kernel_rfl!) ?_)
  rw [if_neg (by rw [sizeLine_eq]; show ¬ (1 > _); lia)]
  refine ex_cls L.hC (by kernel_rfl!) fun h₁₂ s₁₂ e₁₂ => ?_
  replace e₁₂ : h₁₂.get? C = some (clO (kcd N [.ref C, .type "object"] false [Str.ofString "obj"]) #[some (.ref bt), none, some (.str (Str.ofString "K") tn), some c.qv, some (.builtin "object.__new__")]) := e₁₂.trans (by kernel_rfl!)
  replace L := L.updC s₁₂ e₁₂
  replace hmd := (s₁₂.2 md mC).trans hmd
  clear s₁₂ e₁₂
  (repeat ((fail_if_success (with_reducible show wpAny _ _ (_ >>= _) _ _ _)); (fail_if_success (with_reducible show wpAny _ _ (holding _ _) _ _ _)); (first | k_node | refine it0 (by kernel_rfl!) ?_ | refine it1 (by kernel_rfl!) ?_)))
  (refine wpAny_bind (wpAny_of_eq (by exact p11) ?_); (repeat ((fail_if_success (with_reducible show wpAny _ _ (_ >>= _) _ _ _)); (fail_if_success (with_reducible show wpAny _ _ (holding _ _) _ _ _)); (first | k_node | refine it0 (by kernel_rfl!) ?_ | refine it1 (by kernel_rfl!) ?_))))
  refine wpAny_bind (ex_slot L.hC (by exact fk0 1 (.a (.n 5) (.n 1)) (.n 10) rfl []) fun h₁₃ s₁₃ e₁₃ => ?_)
  replace e₁₃ : h₁₃.get? C = some (clO (kcd N [.ref C, .type "object"] false [Str.ofString "obj"]) #[some (.ref bt), none, some (.str (Str.ofString "K") tn), some c.qv, some (.builtin "object.__new__"), some (.bool false)]) := e₁₃.trans (by kernel_rfl!)
  replace L := L.updC s₁₃ e₁₃
  replace hmd := (s₁₃.2 md mC).trans hmd
  clear s₁₃ e₁₃
  (repeat ((fail_if_success (with_reducible show wpAny _ _ (_ >>= _) _ _ _)); (fail_if_success (with_reducible show wpAny _ _ (holding _ _) _ _ _)); (first | k_node | refine it0 (by kernel_rfl!) ?_ | refine it1 (by kernel_rfl!) ?_)))
  (refine wpAny_bind (ex_get L.hN (r := none) (by kernel_rfl!) ?_); (repeat ((fail_if_success (with_reducible show wpAny _ _ (_ >>= _) _ _ _)); (fail_if_success (with_reducible show wpAny _ _ (holding _ _) _ _ _)); (first | k_node | refine it0 (by kernel_rfl!) ?_ | refine it1 (by kernel_rfl!) ?_))))
  refine wpAny_bind (ex_set L.hN (by kernel_rfl!) fun hD h₁₄ s₁₄ e₁₄ => ?_)
  replace e₁₄ : h₁₄.get? N = some (dcO (c.esD hO (tk + 1) md hD (tk + 1 + 1)) 3) := e₁₄.trans (by kernel_rfl!)
  replace L := L.updN s₁₄ e₁₄
  replace hmd := (s₁₄.2 md mN).trans hmd
  clear s₁₄ e₁₄
  (repeat ((fail_if_success (with_reducible show wpAny _ _ (_ >>= _) _ _ _)); (fail_if_success (with_reducible show wpAny _ _ (holding _ _) _ _ _)); (first | k_node | refine it0 (by kernel_rfl!) ?_ | refine it1 (by kernel_rfl!) ?_)))
  (refine wpAny_bind (ex_get L.hN (r := some (.ref c.fe)) (by kernel_rfl!) ?_); (repeat ((fail_if_success (with_reducible show wpAny _ _ (_ >>= _) _ _ _)); (fail_if_success (with_reducible show wpAny _ _ (holding _ _) _ _ _)); (first | k_node | refine it0 (by kernel_rfl!) ?_ | refine it1 (by kernel_rfl!) ?_))))
  (refine wpAny_bind (ex_get L.hN (r := some .none) (by kernel_rfl!) ?_); (repeat ((fail_if_success (with_reducible show wpAny _ _ (_ >>= _) _ _ _)); (fail_if_success (with_reducible show wpAny _ _ (holding _ _) _ _ _)); (first | k_node | refine it0 (by kernel_rfl!) ?_ | refine it1 (by kernel_rfl!) ?_))))
  (refine wpAny_bind (wpAny_of_eq (a := PUnit.unit) (by kernel_rfl!) ?_); (repeat ((fail_if_success (with_reducible show wpAny _ _ (_ >>= _) _ _ _)); (fail_if_success (with_reducible show wpAny _ _ (holding _ _) _ _ _)); (first | k_node | refine it0 (by kernel_rfl!) ?_ | refine it1 (by kernel_rfl!) ?_))))
  refine wpAny_bind (wpAny_tryCatch (wpAny_holding ?_))
  (refine wpAny_bind (wpAny_dictEntries L.hN rfl ?_); (repeat ((fail_if_success (with_reducible show wpAny _ _ (_ >>= _) _ _ _)); (fail_if_success (with_reducible show wpAny _ _ (holding _ _) _ _ _)); (first | k_node | refine it0 (by kernel_rfl!) ?_ | refine it1 (by kernel_rfl!) ?_))))
  (refine wpAny_bind (wpAny_of_eq (a := false) (by kernel_rfl!) ?_); (repeat ((fail_if_success (with_reducible show wpAny _ _ (_ >>= _) _ _ _)); (fail_if_success (with_reducible show wpAny _ _ (holding _ _) _ _ _)); (first | k_node | refine it0 (by kernel_rfl!) ?_ | refine it1 (by kernel_rfl!) ?_))))
  (refine wpAny_bind (wpAny_dictEntries L.hN rfl ?_); (repeat ((fail_if_success (with_reducible show wpAny _ _ (_ >>= _) _ _ _)); (fail_if_success (with_reducible show wpAny _ _ (holding _ _) _ _ _)); (first | k_node | refine it0 (by kernel_rfl!) ?_ | refine it1 (by kernel_rfl!) ?_))))
  refine wpAny_bind ?_
  rw [List.forIn_toArray]
  refine ex_each _ (fun e he Q' hq => ?_) ?_
  · have fn : ∀ f ∈ [c.fi, c.fl, c.fg, c.fe, c.fle, c.fge], wpAny (model PR w) A (specialOf (.ref f) (Str.ofString "__set_name__")) (fun r s' => r = none ∧ s' = ⟨h₁₄, g, d, tk + 1 + 1 + 1, os⟩) (fun _ _ => False) ⟨h₁₄, g, d, tk + 1 + 1 + 1, os⟩ := fun f hf => by
      obtain ⟨o, ho, hc⟩ := hfun f hf
      exact wpAny_specialOf ⟨o, L.kp _ _ ho, hc⟩ q1 ⟨rfl, rfl⟩
    have tu : wpAny (model PR w) A (specialOf (.ref c.st) (Str.ofString "__set_name__")) (fun r s' => r = none ∧ s' = ⟨h₁₄, g, d, tk + 1 + 1 + 1, os⟩) (fun _ _ => False) ⟨h₁₄, g, d, tk + 1 + 1 + 1, os⟩ := wpAny_specialOf ⟨_, L.kp _ _ hst, hsc⟩ q2 ⟨rfl, rfl⟩
    have li : wpAny (model PR w) A (specialOf (.ref c.sl) (Str.ofString "__set_name__")) (fun r s' => r = none ∧ s' = ⟨h₁₄, g, d, tk + 1 + 1 + 1, os⟩) (fun _ _ => False) ⟨h₁₄, g, d, tk + 1 + 1 + 1, os⟩ := wpAny_specialOf ⟨_, L.kp _ _ hsl, rfl⟩ q3 ⟨rfl, rfl⟩
    have de : wpAny (model PR w) A (specialOf (.ref md) (Str.ofString "__set_name__")) (fun r s' => r = none ∧ s' = ⟨h₁₄, g, d, tk + 1 + 1 + 1, os⟩) (fun _ _ => False) ⟨h₁₄, g, d, tk + 1 + 1 + 1, os⟩ := wpAny_specialOf ⟨_, hmd, rfl⟩ q4 ⟨rfl, rfl⟩
    have go : ∀ (E' : Value → Shared → Prop) (v : Value) (k : Option Value → Sem (ForInStep PUnit)), k none = pure (ForInStep.yield PUnit.unit) → wpAny (model PR w) A (specialOf v (Str.ofString "__set_name__")) (fun r s' => r = none ∧ s' = ⟨h₁₄, g, d, tk + 1 + 1 + 1, os⟩) (fun _ _ => False) ⟨h₁₄, g, d, tk + 1 + 1 + 1, os⟩ → wpAny (model PR w) A (specialOf v (Str.ofString "__set_name__") >>= k) Q' E' ⟨h₁₄, g, d, tk + 1 + 1 + 1, os⟩ := fun E' v k hk hv =>
      wpAny_bind (wpAny_mono hv (fun r s' ⟨e1, e2⟩ => by subst e1 e2; rw [hk]; exact wpAny_pure hq) fun _ _ x => x.elim)
    simp only [List.mem_append, List.mem_cons, List.mem_singleton, List.not_mem_nil, or_false] at he
    rcases he with (rfl | rfl | rfl | rfl | rfl | rfl | rfl | rfl | rfl | rfl | rfl) | rfl | rfl
    · refine it0 (by kernel_rfl!) (go _ _ _ rfl (wpAny_of_eq q5 ⟨rfl, rfl⟩))
    · refine it0 (by kernel_rfl!) (go _ _ _ rfl (wpAny_of_eq q6 ⟨rfl, rfl⟩))
    · refine it0 (by kernel_rfl!) (go _ _ _ rfl li)
    · refine it0 (by kernel_rfl!) (go _ _ _ rfl (fn _ (by simp)))
    · refine it0 (by kernel_rfl!) (go _ _ _ rfl (fn _ (by simp)))
    · refine it0 (by kernel_rfl!) (go _ _ _ rfl (fn _ (by simp)))
    · refine it0 (by kernel_rfl!) (go _ _ _ rfl (fn _ (by simp)))
    · refine it0 (by kernel_rfl!) (go _ _ _ rfl (fn _ (by simp)))
    · refine it0 (by kernel_rfl!) (go _ _ _ rfl (fn _ (by simp)))
    · refine it0 (by kernel_rfl!) (go _ _ _ rfl (wpAny_of_eq q7 ⟨rfl, rfl⟩))
    · refine it0 (by kernel_rfl!) (go _ _ _ rfl tu)
    · refine it0 (by kernel_rfl!) (go _ _ _ rfl de)
    · refine it0 (by kernel_rfl!) (go _ _ _ rfl (wpAny_of_eq q7 ⟨rfl, rfl⟩))
  have hC := L.hC
  refine wpAny_bind (wpAny_mono (xA r (ck_super0 (E := fun _ _ => False) hC (es := []) (n := 0))) ?_ fun _ _ e => e.elim)
  rintro v s' ⟨S, h₁₅, tk₁₅, rfl, rfl, k₁₅, hS⟩
  replace L := L.keeps k₁₅
  replace hmd := k₁₅ _ _ hmd
  clear k₁₅ hC
  refine wpAny_bind (wpAny_holding (ck_getsub L.hC L.hN (by kernel_rfl!) hS (L.kp _ _ h2) (r.le (by decide)) fun F h₁₆ tk₁₆ k₁₆ hF => ?_))
  replace L := L.keeps k₁₆
  replace hmd := k₁₆ _ _ hmd
  clear k₁₆ hS
  have hC := L.hC
  refine wpAny_bind (wpAny_mono (xA r (ck_isub0 (E := fun _ _ => False) hC hF (es := #[]) (n := 0))) ?_ fun _ _ e => e.elim)
  rintro v s' ⟨h₁₇, tk₁₇, rfl, k₁₇⟩
  replace L := L.keeps k₁₇
  replace hmd := k₁₇ _ _ hmd
  exact wpAny_pure (wpAny_pure (hQ C N md hO _ _ hD _ _ _ L.kp L.hC L.hN hmd L.C0 L.N0 mh))
end
end Mine
end
section
open PySem PySem.W PySem.Calls PyProof.Rows
set_option Elab.async false
set_option maxRecDepth 100000
set_option maxHeartbeats 8000000
set_option linter.unusedVariables false
namespace Mine
theorem entry_tc : entryFor table "type.__call__" = some Builtin.«type.__call__» := entryFor_of_tree (by kernel_rfl)
theorem entry_tn : entryFor table "type.__new__" = some Builtin.«type.__new__» := entryFor_of_tree (by kernel_rfl)
theorem Rm.under {A : Around} {n : Nat} {c : Code} (r : Rm A (n + 1)) (hw' : Nat.ble c.weight 1 = true) (hu' : Nat.ble c.cUnits 8 = true) : Rm (A.under c) n :=
  have hw := Nat.le_of_ble_eq_true hw'
  have hu := Nat.le_of_ble_eq_true hu'
  ⟨r.1, by have := r.2.1; show A.depth + c.weight + n < 900; exact fk2 1 1 1 (.a (.a (.a (.v 0) (.v 1)) (.v 2)) (.n 1)) (.n 900) (.v 1) (.n 1) (.a (.a (.v 0) (.a (.v 2) (.n 1))) (.n 1)) (.n 900) rfl [_, _, _] hw this, by have := r.2.2; show A.units + c.cUnits + 8 * n < 9000; exact fk2 1 1 1 (.a (.a (.a (.v 0) (.v 1)) (.m 8 (.v 2))) (.n 1)) (.n 9000) (.v 1) (.n 8) (.a (.a (.v 0) (.m 8 (.a (.v 2) (.n 1)))) (.n 1)) (.n 9000) rfl [_, _, _] hu this⟩
/-- the class as it stands -/
structure KC (c : CV) (bt : Addr) (tn : Tok) (C N md : Addr) (h : Heap) : Prop where
  hC : h.get? C = some (clO (kcd N [.ref C, .type "object"] false [Str.ofString "obj"]) #[some (.ref bt), none, some (.str (Str.ofString "K") tn), some c.qv, some (.builtin "object.__new__"), some (.bool false)])
  hN : ∃ hO tO hD tD, h.get? N = some (dcO (c.esD hO tO md hD tD) 3)
  hm : ∃ t, h.get? md = some (mdO t C)
theorem KC.keeps {c : CV} {bt : Addr} {tn : Tok} {C N md : Addr} {h h' : Heap} (K : KC c bt tn C N md h) (k : ∀ b o, h.get? b = some o → h'.get? b = some o) : KC c bt tn C N md h' :=
  ⟨k _ _ K.hC, let ⟨a, b, e, f, q⟩ := K.hN; ⟨a, b, e, f, k _ _ q⟩, let ⟨t, q⟩ := K.hm; ⟨t, k _ _ q⟩⟩
noncomputable def PN (s : Shared) (v : Value) (s' : Shared) : Prop := v = .none ∧ ∃ h' tk', s' = { s with heap := h', toks := tk' } ∧ (∀ b o, s.heap.get? b = some o → h'.get? b = some o)
section
local macro_rules | `(tactic| x_close) => `(tactic| first | exact ⟨rfl, _, _, rfl, mem_keep (by assumption)⟩ | exact ⟨rfl, _, _, rfl, fun _ _ e => e⟩)
open PySem.W.X in
theorem ck_tinit0 {w : World} {s : Shared} {E : Value → Shared → Prop} {C N F bt ns : Addr} {tn tn' tq : Tok} 
   (hC : s.heap.get? C = some ⟨.type "type", none, .cls (kcd N [.ref C, .type "object"] false [Str.ofString "obj"]), #[some (.ref bt), none, some (.str (Str.ofString "K") tn), some (.str (Str.ofString "cmp_to_key.<locals>.K") tq), some (.builtin "object.__new__"), some (.bool false)]⟩)
   : wpAny (model PR w) ⟨none, 900, none, none, 9000⟩ (call (.builtin "type.__init__") [.ref C, .str (Str.ofString "K") tn', .ref bt, .ref ns]) (PN s) E s := by
  x_run
end
section
variable {w : World} {A : Around} {s : Shared} {E : Value → Shared → Prop}
set_option pp.deepTerms false in
set_option pp.maxSteps 3000 in
theorem ck_type {c : CV} {bt ns : Addr} {tn to : Tok} {ep : Nat} {Q : Value → Shared → Prop}
    (hb : s.heap.get? bt = some (seqObj "tuple" #[.type "object"] 0)) (hn : s.heap.get? ns = some (dcO c.es12 ep)) (hns : (ns == sysModules) = false) (hfun : ∀ f ∈ [c.fi, c.fl, c.fg, c.fe, c.fle, c.fge], ∃ o, s.heap.get? f = some o ∧ o.cls = .type "function") {oT : Obj} (hst : s.heap.get? c.st = some oT) (hsc : oT.cls = .type "tuple")
    (hsl : s.heap.get? c.sl = some (seqObj "list" #[.str (Str.ofString "obj") to] 0)) (h2 : s.heap.get? cStatics = some ⟨.none, none, .dict #[] 0, #[]⟩) (r : Rm A 6)
    (hQ : ∀ C N md h' tk', (∀ b o, s.heap.get? b = some o → h'.get? b = some o) → KC c bt tn C N md h' → s.heap.get? C = none → s.heap.get? N = none → s.heap.get? md = none → Q (.ref C) { s with heap := h', toks := tk' }) :
    wpAny (model PR w) A (call (.type "type") [.str (Str.ofString "K") tn, .ref bt, .ref ns]) Q E s := by
  refine wpAny_call (codeAny_of_tree ?_)
  show wpAny _ _ (callAny (.type "type") ⟨_, []⟩) _ _ _
  refine wpAny_pure ⟨by kernel_rfl!, codeAny_builtin entry_tc ?_⟩
  unfold Builtin.«type.__call__»
  (repeat ((fail_if_success (with_reducible show wpAny _ _ (_ >>= _) _ _ _)); (fail_if_success (with_reducible show wpAny _ _ (holding _ _) _ _ _)); (first | k_node | refine it0 (by kernel_rfl!) ?_ | refine it1 (by kernel_rfl!) ?_)))
  (refine wpAny_bind (wpAny_of_eq (a := ()) (by kernel_rfl!) ?_); (repeat ((fail_if_success (with_reducible show wpAny _ _ (_ >>= _) _ _ _)); (fail_if_success (with_reducible show wpAny _ _ (holding _ _) _ _ _)); (first | k_node | refine it0 (by kernel_rfl!) ?_ | refine it1 (by kernel_rfl!) ?_))))
  (refine wpAny_bind (wpAny_of_eq (a := [.type "type", .type "object"]) (by kernel_rfl!) ?_); (repeat ((fail_if_success (with_reducible show wpAny _ _ (_ >>= _) _ _ _)); (fail_if_success (with_reducible show wpAny _ _ (holding _ _) _ _ _)); (first | k_node | refine it0 (by kernel_rfl!) ?_ | refine it1 (by kernel_rfl!) ?_))))
  (refine wpAny_bind (wpAny_of_eq (a := some "type.__new__") (by kernel_rfl!) ?_); (repeat ((fail_if_success (with_reducible show wpAny _ _ (_ >>= _) _ _ _)); (fail_if_success (with_reducible show wpAny _ _ (holding _ _) _ _ _)); (first | k_node | refine it0 (by kernel_rfl!) ?_ | refine it1 (by kernel_rfl!) ?_))))
  (refine wpAny_bind (wpAny_pure ?_); (repeat ((fail_if_success (with_reducible show wpAny _ _ (_ >>= _) _ _ _)); (fail_if_success (with_reducible show wpAny _ _ (holding _ _) _ _ _)); (first | k_node | refine it0 (by kernel_rfl!) ?_ | refine it1 (by kernel_rfl!) ?_))))
  refine wpAny_bind (wpAny_holding ?_)
  show wpAny _ _ (call (.builtin "type.__new__") [.type "type", .str (Str.ofString "K") tn, .ref bt, .ref ns]) _ _ _
  refine wpAny_call (codeAny_call_builtin_at (by kernel_rfl!) entry_tn (wpAny_of_eq (a := ()) (by kernel_rfl!) ?_))
  refine ck_new hb hn hns hfun hst hsc hsl h2 ?rm fun C N md hO tO t1 hD tD h' tk' kp hC hN hm C0 N0 m0 => ?_
  case rm => exact (r.under (n := 5) (by kernel_rfl!) (by kernel_rfl!)).under (by kernel_rfl!) (by kernel_rfl!)
  show wpAny _ _ (isInstance (.ref C) (.type "type") >>= _) _ _ _
  have hT : ({ s with heap := h', toks := tk' } : Shared).TypeIs (.ref C) "type" := ⟨_, hC, rfl⟩
  (refine wpAny_bind (wpAny_isInstance hT p3 ?_); (repeat ((fail_if_success (with_reducible show wpAny _ _ (_ >>= _) _ _ _)); (fail_if_success (with_reducible show wpAny _ _ (holding _ _) _ _ _)); (first | k_node | refine it0 (by kernel_rfl!) ?_ | refine it1 (by kernel_rfl!) ?_))))
  refine wpAny_bind (wpAny_holding ?_)
  unfold callSpecial?
  (refine wpAny_bind (wpAny_specialOf hT (show typeLookup (.type "type") (Str.ofString "__init__") = pure (some (.builtin "type.__init__")) by kernel_rfl!) ?_); (repeat ((fail_if_success (with_reducible show wpAny _ _ (_ >>= _) _ _ _)); (fail_if_success (with_reducible show wpAny _ _ (holding _ _) _ _ _)); (first | k_node | refine it0 (by kernel_rfl!) ?_ | refine it1 (by kernel_rfl!) ?_))))
  refine wpAny_holding ?_
  (refine wpAny_bind (wpAny_of_eq (a := (Value.builtin "type.__init__", [Value.ref C])) (by kernel_rfl!) ?_); (repeat ((fail_if_success (with_reducible show wpAny _ _ (_ >>= _) _ _ _)); (fail_if_success (with_reducible show wpAny _ _ (holding _ _) _ _ _)); (first | k_node | refine it0 (by kernel_rfl!) ?_ | refine it1 (by kernel_rfl!) ?_))))
  refine wpAny_bind (wpAny_mono (xA (r.under (n := 5) (by kernel_rfl!) (by kernel_rfl!)) (ck_tinit0 (E := fun _ _ => False) (F := 0) hC)) ?_ fun _ _ e => e.elim)
  rintro v s' ⟨rfl, h₁, tk₁, rfl, k₁⟩
  exact wpAny_pure (wpAny_pure (hQ C N md _ _ (fun b o q => k₁ b o (kp b o q)) (KC.keeps ⟨hC, ⟨_, _, _, _, hN⟩, ⟨_, hm⟩⟩ k₁) C0 N0 m0))
end
end Mine
end
section
open PySem PySem.W PySem.Calls PyProof.Rows
set_option Elab.async false
set_option maxRecDepth 100000
set_option maxHeartbeats 8000000
set_option linter.unusedVariables false
namespace Mine
section
variable {M : Model} {A : Around} {E : Value → Shared → Prop} {h : Heap} {g : Array GenState} {d : Drawn} {tk : Nat} {os : OsState}
theorem code_cls {env : Env} {c P : Addr} {ps : Array Value} {pos : Pos} {fl : Nat} {name qual : Str} {scope : Scope} {Q : Value → Shared → Prop} (hc : env.code = .ref c) (hok : h.IsCode c P ps) (hnf : codeAmong pos ps.toList = none)
    (hQ : ∀ c' P' h' tk', (∀ b o, b ≠ P → h.get? b = some o → h'.get? b = some o) → (∃ oP, h'.get? P = some oP ∧ ∀ p₀, h.get? P = some (tabObj p₀) → ∃ p', oP = tabObj p') → h.get? c' = none → h.get? P' = none → c' ≠ P → P' ≠ P → h'.IsCode c' P' #[] → h'.TableAt c' P' #[] → Q (.ref c') ⟨h', g, d, tk', os⟩) :
    wpAny M A (classCode env pos fl name qual scope) Q E ⟨h, g, d, tk, os⟩ := by
  obtain ⟨o, vs, file, tf, flags, tg, inF, text, tt, op, ho, hd, h11, h2, h7, h9, h10, hop, hpd, htr, hne⟩ := id hok
  unfold classCode codeAt
  rw [hc, if_neg (show ¬ ((Value.ref c == Value.none) = true) from Bool.false_ne_true)]
  refine wpAny_bind (wpAny_fieldsOf ho hd ?_)
  rw [h11]
  refine wpAny_bind (wpAny_fieldsOf hop hpd ?_)
  rw [hnf, h2, h7, h9, h10]
  refine wpAny_bind (wpAny_newCodeX fun c' P' h' tk' hk lc lP hcd htb hrec => ?_)
  have hop' := hk _ _ hop
  refine wpAny_bind (wpAny_updateFieldsOfTheText hop' hpd ?_)
  have up := Heap.SameBut.update h' P (Obj.mapFields fun vs => if (codeAmong pos vs.toList).isSome = true then vs else vs ++ #[rawInt pos.line, rawInt pos.col, Value.ref c'])
  have hdt : (Obj.mapFields (fun vs => if (codeAmong pos vs.toList).isSome = true then vs else vs ++ #[rawInt pos.line, rawInt pos.col, Value.ref c']) op).data = .fields (ps ++ #[rawInt pos.line, rawInt pos.col, .ref c']) := by
    rw [Obj.data_mapFields hpd, hnf]
    rfl
  have got := Heap.get?_update_self (h := h') (Obj.mapFields fun vs => if (codeAmong pos vs.toList).isSome = true then vs else vs ++ #[rawInt pos.line, rawInt pos.col, Value.ref c']) hop' (Obj.isFreed_of_fields hdt)
  refine wpAny_bind (wpAny_fieldsOf got hdt ?_)
  rw [show (ps ++ #[rawInt pos.line, rawInt pos.col, Value.ref c']).toList = ps.toList ++ [rawInt pos.line, rawInt pos.col, .ref c'] by simp, codeAmong_snoc _ htr hnf]
  have lt := Heap.lt_size hop
  have n1 : c' ≠ P := Nat.ne_of_gt (Nat.lt_of_lt_of_le lt lc)
  have n2 : P' ≠ P := Nat.ne_of_gt (Nat.lt_of_lt_of_le lt lP)
  refine wpAny_pure (hQ c' P' _ _ (fun b o' hb e => (up.2 b hb).trans (hk b o' e)) ⟨_, got, fun p₀ e₀ => by rw [hop] at e₀; cases e₀; exact ⟨_, rfl⟩⟩ (Heap.get?_none_of_le lc) (Heap.get?_none_of_le lP) n1 n2 (hcd.extBut up.extBut n1 n2) ?_)
  obtain ⟨⟨oc, vc, a1, a2, a3, a4⟩, a5⟩ := htb
  exact ⟨⟨oc, vc, (up.2 _ n1).trans a1, a2, a3, a4⟩, (up.2 _ n2).trans a5⟩
/-- a method is made: a def without defaults, its closure known -/
theorem make_m {env : Env} {c P : Addr} {ps : Array Value} {pos : Pos} {fl : Nat} {name qual : Str} {params : Arguments} {body : List Stmt} {scope : Scope} {clos : List (Str × Addr)} {mg : Str → Option Value} {Q : Value → Shared → Prop}
    (hcl : closureFor scope env = pure clos) (hc : env.code = .ref c) (hok : h.IsCode c P ps) (htb : h.TableAt c P ps) (hnf : codeAmong pos ps.toList = none) (hge : env.globals = mainGlobals) (hg : h.Ns mainGlobals mg) (hgP : mainGlobals ≠ P) (hb : h.BuiltinsAt mg P) (hdoc : docOf body = none)
    (hQ : ∀ c' ct fa h' tk', (∀ b o, b ≠ P → h.get? b = some o → h'.get? b = some o) → h.get? c' = none → c' ≠ P → h.get? fa = none → fa ≠ P → h'.IsCode c P (ps ++ #[rawInt pos.line, rawInt pos.col, .ref c']) → h'.TableAt c P (ps ++ #[rawInt pos.line, rawInt pos.col, .ref c']) → h'.CodeRec (.ref c') qual → (∃ o, h'.get? c' = some o ∧ o.cls = .type "code") →
      h'.get? fa = some { cls := .type "function", data := .func (fnX name qual params body scope clos .none .none .none ((mg "__name__").getD .none) none (.ref c') ct) } → Q (.ref fa) ⟨h', g, d, tk', os⟩) :
    wpAny M A (makeFunction name qual params (.stmts body) scope env [] [] [] pos fl) Q E ⟨h, g, d, tk, os⟩ := by
  rw [makeFunction_eq]
  simp only [List.zip_nil_right, List.filterMap_nil, List.isEmpty_nil, if_true, pure_bind]
  obtain ⟨bm, ob, hbm, hne0, _, hneP, hbo, hcls, hdict, hdata⟩ := hb
  unfold makeTail
  rw [hcl, hge]
  refine wpAny_bind (wpAny_pure ?_)
  have fin : ∀ (ct : Value) (h₁ : Heap) (tk₁ : Nat), (∀ b o, h.get? b = some o → h₁.get? b = some o) → h.objs.size ≤ h₁.objs.size → wpAny M A (do
      let cv ← functionCode env pos fl name qual params scope (.stmts body)
      let bv ← builtinsFor mainGlobals env.builtins
      let nv ← nsGet mainGlobals "__name__"
      let dv ← (match docOf body with | some s => mkText s | none => pure Value.none)
      newObj (.type "function") (.func { name, qualname := qual, params, body := .stmts body, scope, globals := mainGlobals, closure := clos, closureTuple := ct, code := cv, builtins := bv, defaults := .none, kwdefaults := .none, annotations := none, pyModule := nv.getD .none, doc := dv })) Q E ⟨h₁, g, d, tk₁, os⟩ := by
    intro ct h₁ tk₁ k₁ sz
    refine wpAny_bind (wpAny_functionCodeX hc (hok.keeps k₁) (htb.keeps k₁) hnf fun c' h₂ tk₂ hx hge' hlt hcd hrec htb' htc => ?_)
    obtain ⟨P', _, _, ⟨oc, vc, hoc, hoc2, _⟩, _⟩ := htc
    have hg' := (hg.keeps k₁).extBut hx hgP
    refine wpAny_bind (wpAny_builtinsFor hg' hbm hne0 (hx _ _ hneP (k₁ _ _ hbo)) hcls hdict hdata ?_)
    refine wpAny_bind (wpAny_nsGet hg' ?_)
    rw [hdoc]
    refine wpAny_bind (wpAny_pure (wpAny_newObj_type ?_ (by size_fits)))
    have lt : P < h₂.objs.size := Heap.lt_size htb'.2
    have szc : h.objs.size ≤ h₂.objs.size := Nat.le_of_lt (Nat.lt_of_le_of_lt (Nat.le_trans sz hge') hlt)
    exact hQ c' ct _ _ _ (fun b o hb' e => Heap.get?_push_of_some _ (hx b o hb' (k₁ b o e))) (Heap.get?_none_of_le (Nat.le_trans sz hge')) (Nat.ne_of_gt (Nat.lt_of_lt_of_le (Heap.lt_size (k₁ _ _ htb.2)) hge')) (Heap.get?_none_of_le szc) (Nat.ne_of_gt lt) (hcd.push _) (htb'.keeps fun _ _ e => Heap.get?_push_of_some _ e) (hrec.push _) ⟨oc, Heap.get?_push_of_some _ hoc, hoc2⟩ (Heap.get?_push_size _ rfl)
  cases clos with
  | nil =>
    simp only [List.isEmpty_nil, if_true]
    exact wpAny_bind (wpAny_pure (fin .none h tk (fun _ _ e => e) (Nat.le_refl _)))
  | cons q r =>
    simp only [List.isEmpty_cons, Bool.false_eq_true, if_false]
    exact wpAny_bind (wpAny_newTextTuple (fin _ _ _ (fun _ _ e => Heap.get?_push_of_some _ e) (by rw [Heap.size_push]; exact Nat.le_succ _)))
theorem store_c {env : Env} {N : Addr} {es : List DictEntry} {n : Nat} {name : Str} {v : Value} {Q : Unit → Shared → Prop} (hs : storeName env name v = localSet env name v) (hl : env.locals = N) (hN : h.get? N = some (dcO es n)) (e : aRefKeyMayBeTheName name es.toArray = false)
    (hQ : ∀ hs h', Heap.SameBut N h h' → h'.get? N = some (Obj.putName name hs (.str name tk) v (dcO es n)) → Q () ⟨h', g, d, tk + 1, os⟩) : wpAny M A (storeName env name v) Q E ⟨h, g, d, tk, os⟩ := by
  rw [hs]
  unfold localSet
  rw [hl]
  refine wpAny_bind (wpAny_load' hN ?_)
  rw [if_pos (by rfl)]
  exact ex_set hN e hQ
theorem def_m {env : Env} {c P N : Addr} {ps : Array Value} {pos : Pos} {name qual : Str} {params : Arguments} {body : List Stmt} {scope : Scope} {clos : List (Str × Addr)} {mg : Str → Option Value} {es : List DictEntry} {n : Nat} {Q : Flow → Shared → Prop}
    (hcl : closureFor scope env = pure clos) (hc : env.code = .ref c) (hok : h.IsCode c P ps) (htb : h.TableAt c P ps) (hnf : codeAmong pos ps.toList = none) (hge : env.globals = mainGlobals) (hg : h.Ns mainGlobals mg) (hgP : mainGlobals ≠ P) (hb : h.BuiltinsAt mg P) (hdoc : docOf body = none)
    (hqn : qualnameIn env name name = qual) (hdf : defaultsOf params env = ([], [])) (han : annotationsOf (params.args ++ params.posonlyargs ++ params.vararg.toList ++ params.kwonlyargs ++ params.kwarg.toList) env = []) (hkw : params.kwonlyargs = [])
    (hst : ∀ v, storeName env name v = localSet env name v) (hl : env.locals = N) (hN : h.get? N = some (dcO es n)) (hNP : N ≠ P) (e : aRefKeyMayBeTheName name es.toArray = false)
    (hQ : ∀ c' ct fa hs tn h' tk', (∀ b o, b ≠ P → b ≠ N → h.get? b = some o → h'.get? b = some o) → h.get? c' = none → c' ≠ P → c' ≠ N → h.get? fa = none → fa ≠ P → fa ≠ N → h'.IsCode c P (ps ++ #[rawInt pos.line, rawInt pos.col, .ref c']) → h'.TableAt c P (ps ++ #[rawInt pos.line, rawInt pos.col, .ref c']) → h'.CodeRec (.ref c') qual → (∃ o, h'.get? c' = some o ∧ o.cls = .type "code") →
      h'.get? fa = some { cls := .type "function", data := .func (fnX name qual params body scope clos .none .none .none ((mg "__name__").getD .none) none (.ref c') ct) } → h'.get? N = some (Obj.putName name hs (.str name tn) (.ref fa) (dcO es n)) → Q .next ⟨h', g, d, tk', os⟩) :
    wpAny M A (exec (.FunctionDef name params body [] none [] scope none name pos) env) Q E ⟨h, g, d, tk, os⟩ := by
  obtain ⟨po, ar, va, ko, kd, kwa, df⟩ := params
  rw [arm_exec_FunctionDef]
  unfold defStmt
  rw [hdf]
  simp only [List.isEmpty_nil, Bool.not_true, Bool.false_and, Bool.false_eq_true, if_false]
  dsimp only at han ⊢
  rw [han]
  refine wpAny_bind (wpAny_of_eq (a := []) rfl (wpAny_bind (wpAny_standAt (wpAny_bind (wpAny_holding (wpAny_bind (wpAny_of_eq (a := []) rfl (wpAny_bind (wpAny_holding (wpAny_of_eq (a := []) rfl (wpAny_holding (wpAny_bind (wpAny_of_eq (a := []) rfl ?_)))))))))))))
  rw [hqn]
  refine make_m hcl hc hok htb hnf hge hg hgP hb hdoc fun c' ct fa h₁ tk₁ k₁ c0 c0P f0 fP cd tb rc kc ho => ?_
  refine wpAny_bind (wpAny_of_eq (a := .ref fa) rfl (wpAny_bind (wpAny_standAt (wpAny_bind ?_))))
  unfold bindName
  refine wpAny_bind (wpAny_holding (wpAny_point (wpAny_bind ?_)))
  have hN₁ := k₁ N _ hNP hN
  have fN : fa ≠ N := fun q => by rw [q, hN] at f0; cases f0
  refine store_c (hst _) hl hN₁ e fun hs h₂ s₂ e₂ => ?_
  have cP : c ≠ N := fun q => by
    obtain ⟨⟨o, vs, a1, a2, a3, a4⟩, _⟩ := htb
    rw [q, hN] at a1
    cases a1
    have a2' : Value.type "dict" = Value.type "code" := a2
    injection a2' with q2
    exact absurd q2 (by decide)
  have PN : P ≠ N := hNP.symm
  refine wpAny_point (wpAny_pure (hQ c' ct fa hs _ _ _ (fun b o b1 b2 q => (s₂.2 b b2).trans (k₁ b o b1 q)) c0 c0P (fun q => by rw [q, hN] at c0; cases c0) f0 fP fN (cd.extBut s₂.extBut cP PN) ?_ ?_ (let ⟨oc, e1, e2⟩ := kc; ⟨oc, (s₂.2 _ (fun q => by rw [q, hN] at c0; cases c0)).trans e1, e2⟩) ((s₂.2 _ fN).trans ho) e₂))
  · obtain ⟨⟨oc, vc, a1, a2, a3, a4⟩, a5⟩ := tb
    exact ⟨⟨oc, vc, (s₂.2 _ cP).trans a1, a2, a3, a4⟩, (s₂.2 _ PN).trans a5⟩
  · obtain ⟨c₂, o₂, vs₂, t₂, q₂, g₂, r₂, z₂⟩ := rc
    refine ⟨c₂, o₂, vs₂, t₂, q₂, (s₂.2 _ fun q => ?_).trans g₂, r₂, z₂⟩
    rw [q, hN₁] at g₂
    cases g₂
    cases r₂
end
end Mine
end
section
open PySem PySem.W PySem.W.X PySem.Calls PyProof.Rows
set_option Elab.async false
set_option maxRecDepth 100000
set_option maxHeartbeats 0
set_option linter.unusedVariables false
namespace Mine
/-- one new object is given back -/
noncomputable def P1 (s : Shared) (o : Obj) (v : Value) (s' : Shared) : Prop := ∃ a h' tk', v = .ref a ∧ s' = { s with heap := h', toks := tk' } ∧ (∀ b o, s.heap.get? b = some o → h'.get? b = some o) ∧ h'.get? a = some o ∧ s.heap.get? a = none
theorem mem_new {h h' : Heap} {chg news : List (Addr × Obj)} (D : Mem h h' chg news) (i : Nat) (a : Addr) (o : Obj) (hi : news[i]? = some (a, o)) : h.get? a = none := (D.nw _ (List.mem_of_getElem? hi)).2
noncomputable abbrev prO : Obj := ⟨.type "builtin_function_or_method", none, .fields #[.builtin "type.__prepare__", .type "type"], #[]⟩
section
local macro_rules | `(tactic| x_close) => `(tactic| exact ⟨_, _, _, rfl, rfl, mem_keep (by assumption), Mem.at (by assumption) 0 _ _ rfl, mem_new (by assumption) 0 _ _ rfl⟩)
theorem ck_tga0 {w : World} {s : Shared} {E : Value → Shared → Prop} {t : Tok} : wpAny (model PR w) ⟨none, 900, none, none, 9000⟩ (call (.builtin "type.__getattribute__") [.type "type", .str (Str.ofString "__prepare__") t]) (P1 s prO) E s := by
  x_run
theorem ck_prep0 {w : World} {s : Shared} {E : Value → Shared → Prop} {pr bt : Addr} {tn : Tok} (hp : s.heap.get? pr = some ⟨.type "builtin_function_or_method", none, .fields #[.builtin "type.__prepare__", .type "type"], #[]⟩) : wpAny (model PR w) ⟨none, 900, none, none, 9000⟩ (call (.ref pr) [.str (Str.ofString "K") tn, .ref bt]) (P1 s ⟨.type "dict", none, .dict #[] 0, #[]⟩) E s := by
  x_run
end
theorem ck_getprep {w : World} {A : Around} {E : Value → Shared → Prop} {h : Heap} {g : Array GenState} {d : Drawn} {tk : Nat} {os : OsState} {Q : Option Value → Shared → Prop} (r : Rm A 3)
   (hQ : ∀ pr h' tk', (∀ b o, h.get? b = some o → h'.get? b = some o) → h'.get? pr = some prO → Q (some (.ref pr)) ⟨h', g, d, tk', os⟩)
   : wpAny (model PR w) A (getAttr? (.type "type") (Str.ofString "__prepare__")) Q E ⟨h, g, d, tk, os⟩ := by
  unfold getAttr? mkText
  refine wpAny_bind (wpAny_bind (wpAny_fresh' (wpAny_pure ?_)))
  unfold getAttrBy? getAttrBy
  refine wpAny_bind (wpAny_attempt (wpAny_holding ?_))
  (refine wpAny_bind (wpAny_of_eq (a := .type "type") (by kernel_rfl!) ?_); (repeat ((fail_if_success (with_reducible show wpAny _ _ (_ >>= _) _ _ _)); (fail_if_success (with_reducible show wpAny _ _ (holding _ _) _ _ _)); (first | k_node | refine it0 (by kernel_rfl!) ?_ | refine it1 (by kernel_rfl!) ?_))))
  (refine wpAny_bind (wpAny_of_eq (a := some (.builtin "type.__getattribute__")) (by kernel_rfl!) ?_); (repeat ((fail_if_success (with_reducible show wpAny _ _ (_ >>= _) _ _ _)); (fail_if_success (with_reducible show wpAny _ _ (holding _ _) _ _ _)); (first | k_node | refine it0 (by kernel_rfl!) ?_ | refine it1 (by kernel_rfl!) ?_))))
  (refine wpAny_bind (wpAny_of_eq (a := none) (by kernel_rfl!) ?_); (repeat ((fail_if_success (with_reducible show wpAny _ _ (_ >>= _) _ _ _)); (fail_if_success (with_reducible show wpAny _ _ (holding _ _) _ _ _)); (first | k_node | refine it0 (by kernel_rfl!) ?_ | refine it1 (by kernel_rfl!) ?_))))
  refine wpAny_bind (wpAny_attempt (wpAny_holding ?_))
  unfold callGetattribute boundAndCalled
  (repeat ((fail_if_success (with_reducible show wpAny _ _ (_ >>= _) _ _ _)); (fail_if_success (with_reducible show wpAny _ _ (holding _ _) _ _ _)); (first | k_node | refine it0 (by kernel_rfl!) ?_ | refine it1 (by kernel_rfl!) ?_)))
  (refine wpAny_bind (wpAny_of_eq (a := (Value.builtin "type.__getattribute__", [Value.type "type"])) (by kernel_rfl!) ?_); (repeat ((fail_if_success (with_reducible show wpAny _ _ (_ >>= _) _ _ _)); (fail_if_success (with_reducible show wpAny _ _ (holding _ _) _ _ _)); (first | k_node | refine it0 (by kernel_rfl!) ?_ | refine it1 (by kernel_rfl!) ?_))))
  show wpAny _ _ (call (.builtin "type.__getattribute__") [.type "type", .str (Str.ofString "__prepare__") tk]) _ _ _
  refine wpAny_mono (xA r (ck_tga0 (E := fun _ _ => False))) ?_ fun _ _ e => e.elim
  rintro v s' ⟨pr, h', tk', rfl, rfl, k, hp, _⟩
  exact wpAny_pure (wpAny_pure (hQ pr h' tk' k hp))
theorem nolim_of {h : Heap} (h2 : h.get? cStatics = some ⟨.none, none, .dict #[] 0, #[]⟩) : h.NoLimit := ⟨fun _ => none, ⟨_, _, _, h2, rfl, fun e he => by simp at he, fun x => rfl⟩, rfl⟩
section
variable {M : Model} {A : Around} {E : Value → Shared → Prop} {h : Heap} {g : Array GenState} {d : Drawn} {tk : Nat} {os : OsState}
theorem ex_newT {items : List Value} {Q : Value → Shared → Prop}
    (hq : ∀ a h', (∀ b o, h.get? b = some o → h'.get? b = some o) → h'.get? a = some { cls := .type "tuple", data := .seq items.toArray } → h.get? a = none → Q (.ref a) ⟨h', g, d, tk, os⟩) : wpAny M A (newTextTuple items) Q E ⟨h, g, d, tk, os⟩ :=
  wpAny_newTextTuple (hq _ _ (fun _ _ e => Heap.get?_push_of_some _ e) (Heap.get?_push_size _ rfl) (Heap.get?_none_of_le (Nat.le_refl _)))
theorem load_c {env : Env} {N : Addr} {es : List DictEntry} {n : Nat} {name : Str} {v : Value} {mg : Str → Option Value} {Q : Value → Shared → Prop} (hk : env.scope.kind = .class) (hko : env.kindOf name = none) (hcn : compilersOwnNames.contains name = true) (hl : env.locals = N) (hN : h.get? N = some (dcO es n)) (e : nsLook name (dcO es n) = pure none)
    (hg : h.Ns env.globals mg) (hv : mg name = some v) (hQ : Q v ⟨h, g, d, tk, os⟩) : wpAny M A (loadName env name) Q E ⟨h, g, d, tk, os⟩ := by
  unfold loadName
  simp only [Env.blockKind, hk, hko, hcn, ScopeKind.isAnnotationScope, Bool.false_and, Bool.false_eq_true, if_false, Bool.not_true]
  unfold localGet
  rw [hl]
  refine wpAny_bind (wpAny_bind (wpAny_load' hN ?_))
  rw [if_pos (by rfl)]
  refine ex_get hN e ?_
  exact loadGlobal_global hg hv hQ
end
end Mine
end
section
open PySem PySem.W PySem.Calls PyProof.Rows
set_option Elab.async false
set_option maxRecDepth 100000
set_option maxHeartbeats 8000000
set_option linter.unusedVariables false
namespace Mine
noncomputable def stOf (n : Str) (l : List Stmt) : Option (Arguments × List Stmt × Scope) := l.findSome? fun st => match st with
  | .FunctionDef m a b _ _ _ sc _ _ _ => if m == n then some (a, b, sc) else none
  | _ => none
noncomputable def ctkB : List Stmt := match stOf (Str.ofString "cmp_to_key") PR.main.body with
  | some (_, b, _) => b
  | none => []
noncomputable def kBody : List Stmt := match ctkB with
  | .ClassDef _ _ _ b _ _ _ _ _ _ _ :: _ => b
  | _ => []
noncomputable def mth (n : String) : Arguments × List Stmt × Scope := match stOf (Str.ofString n) kBody with
  | some r => r
  | none => (⟨[], [], none, [], [], none, []⟩, [], { kind := .function, names := [], isGenerator := false, isCoroutine := false })
/-- a method of the class -/
inductive MthAt (n q : String) (cl : List (Str × Addr)) (f : Addr) (h : Heap) : Prop
  | mk (c : Addr) (ct pm : Value) (e1 : h.get? f = some { cls := .type "function", data := .func (fnX (Str.ofString n) (Str.ofString q) (mth n).1 (mth n).2.1 (mth n).2.2 cl .none .none .none pm none (.ref c) ct) }) (e2 : h.CodeRec (.ref c) (Str.ofString q)) (e3 : ∃ o, h.get? c = some o ∧ o.cls = .type "code") : MthAt n q cl f h
theorem MthAt.keeps {n q : String} {cl : List (Str × Addr)} {f : Addr} {h h' : Heap} (m : MthAt n q cl f h) (k : ∀ b o, h.get? b = some o → h'.get? b = some o) : MthAt n q cl f h' :=
  let ⟨c, ct, pm, e, r, o, e1, e2⟩ := m; ⟨c, ct, pm, k _ _ e, r.keeps k, o, k _ _ e1, e2⟩
/-- while the class's body runs -/
structure CBI (g₀ : Heap) (ns cc PP : Addr) (fs : List (Addr × Obj)) (h : Heap) (es : List DictEntry) (n : Nat) (ps : Array Value) : Prop where
  kp : ∀ b o, b ≠ 23 → g₀.get? b = some o → h.get? b = some o
  hN : h.get? ns = some (dcO es n)
  cd : h.IsCode cc PP ps
  tb : h.TableAt cc PP ps
  fs : ∀ p ∈ fs, h.get? p.1 = some p.2 ∧ p.1 ≠ PP ∧ p.1 ≠ ns
  n0 : g₀.get? ns = none
  P0 : g₀.get? PP = none
  nP : ns ≠ PP
section
variable {g₀ h h' : Heap} {ns cc PP : Addr} {fs : List (Addr × Obj)} {es es' : List DictEntry} {n n' : Nat} {ps : Array Value}
theorem CBI.cN (I : CBI g₀ ns cc PP fs h es n ps) : cc ≠ ns := fun q => by
  obtain ⟨⟨o, vs, a1, a2, a3, a4⟩, _⟩ := I.tb
  rw [q, I.hN] at a1
  cases a1
  have a2' : Value.type "dict" = Value.type "code" := a2
  injection a2' with q2
  exact absurd q2 (by decide)
theorem CBI.stored (I : CBI g₀ ns cc PP fs h es n ps) (s : Heap.SameBut ns h h') (e : h'.get? ns = some (dcO es' n')) : CBI g₀ ns cc PP fs h' es' n' ps := by
  have cN := I.cN
  refine ⟨fun b o hb q => (s.2 b fun z => by rw [z, I.n0] at q; cases q).trans (I.kp b o hb q), e, I.cd.extBut s.extBut cN I.nP.symm, ?_, fun p hp => ⟨(s.2 _ (I.fs p hp).2.2).trans (I.fs p hp).1, (I.fs p hp).2⟩, I.n0, I.P0, I.nP⟩
  obtain ⟨⟨oc, vc, a1, a2, a3, a4⟩, a5⟩ := I.tb
  exact ⟨⟨oc, vc, (s.2 _ cN).trans a1, a2, a3, a4⟩, (s.2 _ I.nP.symm).trans a5⟩
theorem CBI.grown (I : CBI g₀ ns cc PP fs h es n ps) (k : ∀ b o, h.get? b = some o → h'.get? b = some o) : CBI g₀ ns cc PP fs h' es n ps :=
  ⟨fun b o hb q => k _ _ (I.kp b o hb q), k _ _ I.hN, I.cd.keeps k, I.tb.keeps k, fun p hp => ⟨k _ _ (I.fs p hp).1, (I.fs p hp).2⟩, I.n0, I.P0, I.nP⟩
theorem CBI.add {a : Addr} {o : Obj} (I : CBI g₀ ns cc PP fs h es n ps) (k : ∀ b o, h.get? b = some o → h'.get? b = some o) (e : h'.get? a = some o) (a0 : h.get? a = none) : CBI g₀ ns cc PP ((a, o) :: fs) h' es n ps := by
  have J := I.grown k
  refine ⟨J.kp, J.hN, J.cd, J.tb, fun p hp => ?_, J.n0, J.P0, J.nP⟩
  rcases List.mem_cons.mp hp with rfl | hp
  · exact ⟨e, fun q => (by have := I.tb.2; rw [← show a = PP from q, a0] at this; cases this), fun q => (by have := I.hN; rw [← show a = ns from q, a0] at this; cases this)⟩
  · exact J.fs p hp
theorem CBI.defd {a c' : Addr} {o : Obj} {ps' : Array Value} {qual : Str} (I : CBI g₀ ns cc PP fs h es n ps) (k : ∀ b o, b ≠ PP → b ≠ ns → h.get? b = some o → h'.get? b = some o) (cd : h'.IsCode cc PP ps') (tb : h'.TableAt cc PP ps') (hN : h'.get? ns = some (dcO es' n')) (e : h'.get? a = some o) (a1 : a ≠ PP) (a2 : a ≠ ns) :
    CBI g₀ ns cc PP ((a, o) :: fs) h' es' n' ps' := by
  refine ⟨fun b o hb q => k b o (fun z => by rw [z, I.P0] at q; cases q) (fun z => by rw [z, I.n0] at q; cases q) (I.kp b o hb q), hN, cd, tb, fun p hp => ?_, I.n0, I.P0, I.nP⟩
  rcases List.mem_cons.mp hp with rfl | hp
  · exact ⟨e, a1, a2⟩
  · exact ⟨k _ _ (I.fs p hp).2.1 (I.fs p hp).2.2 (I.fs p hp).1, (I.fs p hp).2⟩
theorem CBI.more {a : Addr} {o : Obj} (I : CBI g₀ ns cc PP fs h es n ps) (e : h.get? a = some o) (a1 : a ≠ PP) (a2 : a ≠ ns) : CBI g₀ ns cc PP ((a, o) :: fs) h es n ps := by
  refine ⟨I.kp, I.hN, I.cd, I.tb, fun p hp => ?_, I.n0, I.P0, I.nP⟩
  rcases List.mem_cons.mp hp with rfl | hp
  · exact ⟨e, a1, a2⟩
  · exact I.fs p hp
end
section
variable {M : Model} {A : Around} {E : Value → Shared → Prop} {h : Heap} {g : Array GenState} {d : Drawn} {tk : Nat} {os : OsState} {g₀ : Heap} {ns cc PP : Addr} {fs : List (Addr × Obj)} {es : List DictEntry} {n : Nat} {ps : Array Value} {env : Env} {name : Str} {v : Value}
theorem store_cb {Q : Unit → Shared → Prop} (I : CBI g₀ ns cc PP fs h es n ps) (f : Int → Tok → List DictEntry) (n' : Nat) (hs : storeName env name v = localSet env name v) (hl : env.locals = ns) (e : aRefKeyMayBeTheName name es.toArray = false) (ep : ∀ hs tn, Obj.putName name hs (.str name tn) v (dcO es n) = dcO (f hs tn) n')
    (hQ : ∀ hs tn h' tk', CBI g₀ ns cc PP fs h' (f hs tn) n' ps → Q () ⟨h', g, d, tk', os⟩) : wpAny M A (storeName env name v) Q E ⟨h, g, d, tk, os⟩ :=
  store_c hs hl I.hN e fun hs h' s e => hQ hs tk h' _ (I.stored s (e.trans (congrArg some (ep _ _))))
theorem store_cbA {Q : Unit → Shared → Prop} (I : CBI g₀ ns cc PP fs h es n ps) (hs : storeName env name v = localSet env name v) (hl : env.locals = ns) (e : aRefKeyMayBeTheName name es.toArray = false) (ep : ∀ hs tn, Obj.putName name hs (.str name tn) v (dcO es n) = dcO (es ++ [⟨hs, .str name tn, v⟩]) (n + 1))
    (hQ : ∀ hs tn h' tk', CBI g₀ ns cc PP fs h' (es ++ [⟨hs, .str name tn, v⟩]) (n + 1) ps → Q () ⟨h', g, d, tk', os⟩) : wpAny M A (storeName env name v) Q E ⟨h, g, d, tk, os⟩ :=
  store_cb I (fun a b => es ++ [⟨a, .str name b, v⟩]) (n + 1) hs hl e ep hQ
theorem CBI.globals {mg : Str → Option Value} (I : CBI g₀ ns cc PP fs h es n ps) (G : (gh g₀).Ns mainGlobals mg) : h.Ns mainGlobals mg := G.extBut (fun b o hb e => I.kp b o hb (of_gh e)) (by decide)
theorem CBI.gP {mg : Str → Option Value} (I : CBI g₀ ns cc PP fs h es n ps) (G : (gh g₀).Ns mainGlobals mg) : mainGlobals ≠ PP := fun q => by
  obtain ⟨o, _, _, e, _⟩ := G
  have := of_gh e
  rw [q, I.P0] at this
  cases this
theorem CBI.builtins {mg : Str → Option Value} (I : CBI g₀ ns cc PP fs h es n ps) (h23 : g₀.get? 23 = some (tabObj #[])) (G : (gh g₀).Ns mainGlobals mg) (B : ∃ bm ob, mg "__builtins__" = some (.ref bm) ∧ bm ≠ builtinsNs ∧ (gh g₀).get? bm = some ob ∧ ob.cls = .type "module" ∧ ob.dict = some builtinsNs ∧ ob.data = .plain) : h.BuiltinsAt mg PP := by
  obtain ⟨bm, ob, hbm, hbn, hbo, hbc, hbd, hbt⟩ := B
  have e := of_gh hbo
  have bm23 : bm ≠ 23 := fun q => by
    have e' := e
    rw [q, h23] at e'
    cases e'
    cases hbc
  have bmP : bm ≠ PP := fun q => by
    have e' := e
    rw [q, I.P0] at e'
    cases e'
  have bmG : bm ≠ mainGlobals := fun q => by
    obtain ⟨o, es', ep', e1, e2, _⟩ := G
    rw [q, e1] at hbo
    cases hbo
    rw [e2] at hbt
    cases hbt
  exact ⟨bm, ob, hbm, hbn, bmG, bmP, I.kp _ _ bm23 e, hbc, hbd, hbt⟩
theorem def_cb {pos : Pos} {qual : Str} {params : Arguments} {body : List Stmt} {scope : Scope} {clos : List (Str × Addr)} {mg : Str → Option Value} {Q : Flow → Shared → Prop} (I : CBI g₀ ns cc PP fs h es n ps)
    (h23 : g₀.get? 23 = some (tabObj #[])) (G : (gh g₀).Ns mainGlobals mg) (B : ∃ bm ob, mg "__builtins__" = some (.ref bm) ∧ bm ≠ builtinsNs ∧ (gh g₀).get? bm = some ob ∧ ob.cls = .type "module" ∧ ob.dict = some builtinsNs ∧ ob.data = .plain)
    (hcl : closureFor scope env = pure clos) (hc : env.code = .ref cc) (hnf : codeAmong pos ps.toList = none) (hge : env.globals = mainGlobals) (hdoc : docOf body = none)
    (hqn : qualnameIn env name name = qual) (hdf : defaultsOf params env = ([], [])) (han : annotationsOf (params.args ++ params.posonlyargs ++ params.vararg.toList ++ params.kwonlyargs ++ params.kwarg.toList) env = []) (hkw : params.kwonlyargs = [])
    (hst : ∀ v, storeName env name v = localSet env name v) (hl : env.locals = ns) (e : aRefKeyMayBeTheName name es.toArray = false) (ep : ∀ hs tn fa, Obj.putName name hs (.str name tn) (.ref fa) (dcO es n) = dcO (es ++ [⟨hs, .str name tn, .ref fa⟩]) (n + 1))
    (hQ : ∀ fa ct c' oc vs t hs tn h' tk', CBI g₀ ns cc PP ((c', oc) :: (fa, { cls := .type "function", data := .func (fnX name qual params body scope clos .none .none .none ((mg "__name__").getD .none) none (.ref c') ct) }) :: fs) h' (es ++ [⟨hs, .str name tn, .ref fa⟩]) (n + 1) (ps ++ #[rawInt pos.line, rawInt pos.col, .ref c']) →
      oc.data = .fields vs → vs[1]? = some (.str qual t) → oc.cls = .type "code" → Q .next ⟨h', g, d, tk', os⟩) :
    wpAny M A (exec (.FunctionDef name params body [] none [] scope none name pos) env) Q E ⟨h, g, d, tk, os⟩ := by
  refine def_m hcl hc I.cd I.tb hnf hge (I.globals G) (I.gP G) (I.builtins h23 G B) hdoc hqn hdf han hkw hst hl I.hN I.nP e fun c' ct fa hs tn h' tk' k c0 cP cN f0 fP fN cd tb rc kc ho hN => ?_
  obtain ⟨c₂, oc, vs, t, q, ge, d1, d2⟩ := rc
  cases q
  obtain ⟨oc', e1, e2⟩ := kc
  have eo : oc' = oc := Option.some.inj (e1.symm.trans ge)
  exact hQ fa ct c' oc vs t hs tn h' tk' ((I.defd (c' := c') (qual := qual) k cd tb (hN.trans (congrArg some (ep _ _ _))) ho fP fN).more ge cP cN) d1 d2 (eo ▸ e2)
end
end Mine
end
section
open PySem PySem.W PySem.Calls PyProof.Rows
set_option Elab.async false
set_option maxRecDepth 100000
set_option maxHeartbeats 8000000
set_option linter.unusedVariables false
namespace Mine
theorem ea_one {M : Model} {A : Around} {E : Value → Shared → Prop} {s : Shared} {f : Value} {x : Sem Value} {Q : Args → Shared → Prop} (h : wpAny M A x (fun v s₁ => Q ⟨[v], []⟩ s₁) E s) : wpAny M A (evalArgs f false [(false, x)] []) Q E s := by
  unfold evalArgs
  show wpAny M A (spliced [(false, x)] >>= _) Q E s
  refine wpAny_bind (Calls.spliced_cons (wpAny_mono h (fun v s₁ h₁ => Calls.spliced_nil ?_) fun _ _ x => x))
  exact wpAny_bind (wpAny_pure (wpAny_holding (wpAny_bind (wpAny_pure (wpAny_bind (wpAny_pure (wpAny_pure h₁)))))))
section
variable {w : World} {loose : List Str} {mean : ExcName → Option Value} {mg mb : Str → Option Value} {A : Around} {s : Shared} {Q E : Value → Shared → Prop}
set_option pp.deepTerms false in
set_option pp.maxSteps 3000 in
theorem c_ctk {f : Addr} (W : Wd w loose mean mg mb s.heap) (r : Rm A 12) (h23 : s.heap.get? 23 = some (tabObj #[])) {oS : Obj} (h1 : s.heap.get? sysModules = some oS) (h2 : s.heap.get? cStatics = some ⟨.none, none, .dict #[] 0, #[]⟩)
    (hQ : ∀ C N md bt tn c cl h' tk', (∀ b o, b ≠ 23 → s.heap.get? b = some o → h'.get? b = some o) → KC c bt tn C N md h' → MthAt "__init__" "cmp_to_key.<locals>.K.__init__" [] c.fi h' → MthAt "__lt__" "cmp_to_key.<locals>.K.__lt__" [(Str.ofString "mycmp", cl)] c.fl h' → MthAt "__gt__" "cmp_to_key.<locals>.K.__gt__" [(Str.ofString "mycmp", cl)] c.fg h' →
      (∃ o, h'.get? cl = some o ∧ o.data = .cell (some (.ref f))) → s.heap.get? C = none → s.heap.get? N = none → s.heap.get? md = none → s.heap.get? cl = none → (∃ p', h'.get? 23 = some (tabObj p')) → Q (.ref C) { s with heap := h', toks := tk' }) : wpAny (model PR w) A (call (.ref 28) [.ref f]) Q E s := by
  have X := W.X
  have T := W.T
  obtain ⟨Ah, Ad, Af, Ag, Au⟩ := A
  obtain rfl : Ah = none := r.1
  refine enterC W r (X _ _ (by k_is)) rfl (codeRec_of X (by k_is)) (BindsTo.of_eq rfl) rfl (by decide) ?_
  intro ps L h₁ tk cells hL V h100 hL1 r' x₁ F N C
  obtain ⟨o₁, rfl, hc⟩ := CellsAre.one C
  clear C
  refine wpAny_execs_cons ?_
  rw [arm_exec_ClassDef]
  have kAll : ∀ b o, s.heap.get? b = some o → h₁.get? b = some o := fun b o e => by
    by_cases hb : b = 100
    · subst hb
      rw [h100] at e
      cases e
      exact (N (100, tabObj ps) (by simp)).1
    · exact x₁ b o hb e
  have hG : h₁.Ns mainGlobals mg := T.g.keeps fun b o e => F.keep b o e
  have hB : h₁.Ns builtinsNs mb := T.b.keeps fun b o e => F.keep b o e
  (refine wpAny_bind (wpAny_of_eq (a := []) rfl ?_); (repeat ((fail_if_success (with_reducible show wpAny _ _ (_ >>= _) _ _ _)); (fail_if_success (with_reducible show wpAny _ _ (holding _ _) _ _ _)); (first | k_node | refine it0 (by kernel_rfl!) ?_ | refine it1 (by kernel_rfl!) ?_))))
  (refine wpAny_bind (wpAny_standAt ?_); (repeat ((fail_if_success (with_reducible show wpAny _ _ (_ >>= _) _ _ _)); (fail_if_success (with_reducible show wpAny _ _ (holding _ _) _ _ _)); (first | k_node | refine it0 (by kernel_rfl!) ?_ | refine it1 (by kernel_rfl!) ?_))))
  refine wpAny_bind ?_
  unfold buildClassGuard
  refine wpAny_bind (wpAny_nsGet (m := mb) hB ?_)
  rw [show mb (Str.ofString "__build_class__") = some (.builtin "__build_class__") from (T.builtins _ (by decide)).trans (by kernel_rfl!)]
  (repeat ((fail_if_success (with_reducible show wpAny _ _ (_ >>= _) _ _ _)); (fail_if_success (with_reducible show wpAny _ _ (holding _ _) _ _ _)); (first | k_node | refine it0 (by kernel_rfl!) ?_ | refine it1 (by kernel_rfl!) ?_)))
  refine wpAny_bind (wpAny_holding ?_)
  refine wpAny_bind ?_
  refine ea_one (wpAny_Name (ks_loadName_global rfl rfl (loadGlobal_builtin (mg := mg) (mb := mb) (v := .type "object") hG ?mo hB ?bo ?_)))
  case mo => exact mg_none_of X T.g (by kernel_rfl!)
  case bo => exact (T.builtins _ (by decide)).trans (by kernel_rfl!)
  (refine wpAny_bind (wpAny_standAt ?_); (repeat ((fail_if_success (with_reducible show wpAny _ _ (_ >>= _) _ _ _)); (fail_if_success (with_reducible show wpAny _ _ (holding _ _) _ _ _)); (first | k_node | refine it0 (by kernel_rfl!) ?_ | refine it1 (by kernel_rfl!) ?_))))
  refine wpAny_holding ?_
  unfold buildClass
  refine wpAny_bind (show wpAny _ _ (newObj (.type "tuple") _) _ _ _ from ex_new (by show 1 ≤ _; rw [sizeLine_eq]; lia) rfl fun bt h₂ k₂ hbt bt0 => ?_)
  (refine wpAny_bind (wpAny_of_eq (a := ([Value.type "object"], false)) (by kernel_rfl!) ?_); (repeat ((fail_if_success (with_reducible show wpAny _ _ (_ >>= _) _ _ _)); (fail_if_success (with_reducible show wpAny _ _ (holding _ _) _ _ _)); (first | k_node | refine it0 (by kernel_rfl!) ?_ | refine it1 (by kernel_rfl!) ?_))))
  (refine wpAny_bind (wpAny_of_eq (a := .type "type") (by kernel_rfl!) ?_); (repeat ((fail_if_success (with_reducible show wpAny _ _ (_ >>= _) _ _ _)); (fail_if_success (with_reducible show wpAny _ _ (holding _ _) _ _ _)); (first | k_node | refine it0 (by kernel_rfl!) ?_ | refine it1 (by kernel_rfl!) ?_))))
  (refine wpAny_bind (wpAny_of_eq (a := true) (by kernel_rfl!) ?_); (repeat ((fail_if_success (with_reducible show wpAny _ _ (_ >>= _) _ _ _)); (fail_if_success (with_reducible show wpAny _ _ (holding _ _) _ _ _)); (first | k_node | refine it0 (by kernel_rfl!) ?_ | refine it1 (by kernel_rfl!) ?_))))
  (refine wpAny_bind (wpAny_of_eq (a := .type "type") (by kernel_rfl!) ?_); (repeat ((fail_if_success (with_reducible show wpAny _ _ (_ >>= _) _ _ _)); (fail_if_success (with_reducible show wpAny _ _ (holding _ _) _ _ _)); (first | k_node | refine it0 (by kernel_rfl!) ?_ | refine it1 (by kernel_rfl!) ?_))))
  (refine wpAny_bind (wpAny_mkText ?_); (repeat ((fail_if_success (with_reducible show wpAny _ _ (_ >>= _) _ _ _)); (fail_if_success (with_reducible show wpAny _ _ (holding _ _) _ _ _)); (first | k_node | refine it0 (by kernel_rfl!) ?_ | refine it1 (by kernel_rfl!) ?_))))
  try ((refine wpAny_bind (wpAny_pure ?_); (repeat ((fail_if_success (with_reducible show wpAny _ _ (_ >>= _) _ _ _)); (fail_if_success (with_reducible show wpAny _ _ (holding _ _) _ _ _)); (first | k_node | refine it0 (by kernel_rfl!) ?_ | refine it1 (by kernel_rfl!) ?_)))))
  refine wpAny_holding ?_
  refine wpAny_bind (ck_getprep (r'.le (by decide)) fun pr h₃ tk₃ k₃ hpr => ?_)
  (repeat ((fail_if_success (with_reducible show wpAny _ _ (_ >>= _) _ _ _)); (fail_if_success (with_reducible show wpAny _ _ (holding _ _) _ _ _)); (first | k_node | refine it0 (by kernel_rfl!) ?_ | refine it1 (by kernel_rfl!) ?_)))
  refine wpAny_bind (wpAny_mono (xA r' (ck_prep0 (E := fun _ _ => False) hpr)) ?_ fun _ _ e => e.elim)
  rintro v s' ⟨ns, h₄, tk₄, rfl, rfl, k₄, hns, ns0⟩
  (repeat ((fail_if_success (with_reducible show wpAny _ _ (_ >>= _) _ _ _)); (fail_if_success (with_reducible show wpAny _ _ (holding _ _) _ _ _)); (first | k_node | refine it0 (by kernel_rfl!) ?_ | refine it1 (by kernel_rfl!) ?_)))
  have k14 : ∀ b o, s.heap.get? b = some o → h₄.get? b = some o := fun b o e => k₄ _ _ (k₃ _ _ (k₂ _ _ (kAll b o e)))
  have ns1 : (ns == sysModules) = false := by
    cases q : (ns == sysModules) with
    | false => rfl
    | true =>
      have q' : ns = sysModules := by simpa using q
      have := k₃ _ _ (k₂ _ _ (kAll _ _ h1))
      rw [← q', ns0] at this
      cases this
  refine wpAny_bind ?_
  unfold notTheModulesDict
  rw [if_neg (by rw [ns1]; exact Bool.false_ne_true)]
  (repeat ((fail_if_success (with_reducible show wpAny _ _ (_ >>= _) _ _ _)); (fail_if_success (with_reducible show wpAny _ _ (holding _ _) _ _ _)); (first | k_node | refine it0 (by kernel_rfl!) ?_ | refine it1 (by kernel_rfl!) ?_)))
  have hTn : (⟨h₄, s.gens, s.drawn, tk₄, s.os⟩ : Shared).TypeIs (.ref ns) "dict" := ⟨_, hns, rfl⟩
  (refine wpAny_bind (wpAny_specialOf hTn (show typeLookup (.type "dict") (Str.ofString "__getitem__") = pure (some (.builtin "dict.__getitem__")) by kernel_rfl!) ?_); (repeat ((fail_if_success (with_reducible show wpAny _ _ (_ >>= _) _ _ _)); (fail_if_success (with_reducible show wpAny _ _ (holding _ _) _ _ _)); (first | k_node | refine it0 (by kernel_rfl!) ?_ | refine it1 (by kernel_rfl!) ?_))))
  refine wpAny_holding ?_
  (repeat ((fail_if_success (with_reducible show wpAny _ _ (_ >>= _) _ _ _)); (fail_if_success (with_reducible show wpAny _ _ (holding _ _) _ _ _)); (first | k_node | refine it0 (by kernel_rfl!) ?_ | refine it1 (by kernel_rfl!) ?_)))
  have c27 : h₄.IsCode 27 23 #[] := ⟨_, _, _, _, _, _, _, _, _, _, k14 _ _ (of_gh (X 27 _ (by k_is))), rfl, rfl, rfl, rfl, rfl, rfl, k14 _ _ h23, rfl, trivial, by decide⟩
  (refine wpAny_bind (wpAny_of_eq (a := none) (by kernel_rfl!) ?_); (repeat ((fail_if_success (with_reducible show wpAny _ _ (_ >>= _) _ _ _)); (fail_if_success (with_reducible show wpAny _ _ (holding _ _) _ _ _)); (first | k_node | refine it0 (by kernel_rfl!) ?_ | refine it1 (by kernel_rfl!) ?_))))
  (refine wpAny_bind (wpAny_of_eq (a := none) (by kernel_rfl!) ?_); (repeat ((fail_if_success (with_reducible show wpAny _ _ (_ >>= _) _ _ _)); (fail_if_success (with_reducible show wpAny _ _ (holding _ _) _ _ _)); (first | k_node | refine it0 (by kernel_rfl!) ?_ | refine it1 (by kernel_rfl!) ?_))))
  refine wpAny_bind (code_cls rfl c27 rfl fun cc PP h₅ tk₅ k₅ h523 cc0 P0 cP PP1 hcd htb => ?_)
  obtain ⟨oP, h523, hPc⟩ := h523
  obtain ⟨pP, hPcls⟩ := hPc _ (k14 _ _ h23)
  have k15 : ∀ b o, b ≠ 23 → s.heap.get? b = some o → h₅.get? b = some o := fun b o hb e => k₅ b o hb (k14 b o e)
  obtain ⟨bm, ob, hbm, hbn, hbo, hbc, hbd, hbt'⟩ := T.bmain
  have bm23 : bm ≠ 23 := fun q => by
    have := of_gh hbo
    rw [q, h23] at this
    cases this
    cases hbc
  have hG5 : h₅.Ns mainGlobals mg := ((hG.keeps k₂).keeps fun b o e => k₄ _ _ (k₃ _ _ e)).extBut (fun b o hb e => k₅ b o hb e) (by decide)
  refine wpAny_bind (wpAny_builtinsFor (m := mg) hG5 hbm hbn (k15 _ _ bm23 (of_gh hbo)) hbc hbd hbt' ?_)
  refine wpAny_bind ?_
  unfold newBodyFrame
  refine wpAny_bind (wpAny_nsGet (m := mg) hG5 ?_)
  refine ex_alloc rfl fun fr h₆ k₆ hfr fr0 => ?_
  refine wpAny_bind (wpAny_of_eq (a := [(Str.ofString "mycmp", L + 1)]) (by kernel_rfl!) ?_)
  refine wpAny_holding ?_
  have k16 : ∀ b o, b ≠ 23 → s.heap.get? b = some o → h₆.get? b = some o := fun b o hb e => k₆ _ _ (k15 b o hb e)
  refine wpAny_bind (wpAny_enterFrame (nolim_of (k16 _ _ (by decide) h2)) r'.depth ?_)
  have nsP : ns ≠ 23 := fun q => by
    have := k₃ _ _ (k₂ _ _ (kAll _ _ h23))
    rw [← q, ns0] at this
    cases this
  have hns6 : h₆.get? ns = some (dcO [] 0) := k₆ _ _ (k₅ _ _ nsP hns)
  have hG6 : h₆.Ns mainGlobals mg := hG5.keeps k₆
  obtain ⟨vn, hmn⟩ : ∃ v, mg (Str.ofString "__name__") = some v := ⟨.str (Str.ofString "law_oc0074_01") 313, mg_of X T.g (by kernel_rfl!)⟩
  obtain ⟨oL, esL, epL, eL1, eL2, eL3, eL4⟩ := F.ns
  have eL : h₄.get? L = some oL := k₄ _ _ (k₃ _ _ (k₂ _ _ eL1))
  have eC : h₄.get? (L + 1) = some o₁ := k₄ _ _ (k₃ _ _ (k₂ _ _ (N (L + 1, o₁) (.head _)).1))
  have eB : h₄.get? bt = some (seqObj "tuple" #[.type "object"] 0) := k₄ _ _ (k₃ _ _ hbt)
  have n3 : ∀ a o, h₃.get? a = some o → a ≠ ns := fun a o e q => by rw [q, ns0] at e; cases e
  have P4 : ∀ a o, h₄.get? a = some o → a ≠ PP := fun a o e q => by rw [q, P0] at e; cases e
  have a23 : ∀ a o, o.cls ≠ .none → h₄.get? a = some o → a ≠ 23 := fun a o hc e q => by
    rw [q, k14 _ _ h23] at e
    cases e
    exact hc rfl
  have L23 : L ≠ 23 := Nat.ne_of_gt (Nat.lt_of_le_of_lt (by decide) hL1)
  have C23 : L + 1 ≠ 23 := Nat.ne_of_gt (Nat.lt_succ_of_lt (Nat.lt_of_le_of_lt (by decide) hL1))
  have I : CBI s.heap ns cc PP [(23, oP), (L, oL), (L + 1, o₁), (bt, seqObj "tuple" #[.type "object"] 0)] h₆ [] 0 #[] := by
    have sP : s.heap.get? PP = none := by
      cases q : s.heap.get? PP with
      | none => rfl
      | some o => rw [k14 _ _ q] at P0; cases P0
    have sn : s.heap.get? ns = none := by
      cases q : s.heap.get? ns with
      | none => rfl
      | some o => rw [k₃ _ _ (k₂ _ _ (kAll _ _ q))] at ns0; cases ns0
    refine ⟨k16, hns6, hcd.keeps k₆, htb.keeps k₆, fun p hp => ?_, sn, sP, P4 _ _ hns⟩
    rcases List.mem_cons.mp hp with rfl | hp
    · exact ⟨k₆ _ _ h523, PP1.symm, nsP.symm⟩
    rcases List.mem_cons.mp hp with rfl | hp
    · exact ⟨k₆ _ _ (k₅ _ _ L23 eL), P4 _ _ eL, n3 _ _ (k₃ _ _ (k₂ _ _ eL1))⟩
    rcases List.mem_cons.mp hp with rfl | hp
    · exact ⟨k₆ _ _ (k₅ _ _ C23 eC), P4 _ _ eC, n3 _ _ (k₃ _ _ (k₂ _ _ (N (L + 1, o₁) (.head _)).1))⟩
    rcases List.mem_cons.mp hp with rfl | hp
    · exact ⟨k₆ _ _ (k₅ _ _ (a23 _ _ (by intro z; cases z) eB) eB), P4 _ _ eB, n3 _ _ (k₃ _ _ hbt)⟩
    · cases hp
  clear eC eB n3 P4 a23 hns6 hns hbt hfr fr0 k₆ k₄ k₃ k₂ hpr hcd htb ns0 bt0 cc0 P0
  refine wpAny_bind (wpAny_onRaise ?_)
  refine wpAny_bind (load_c rfl rfl (by kernel_rfl!) rfl I.hN (by kernel_rfl!) hG6 hmn ?_)
  refine wpAny_bind (store_cb I (fun a b => [⟨a, .str (Str.ofString "__module__") b, vn⟩]) 1 (by kernel_rfl!) rfl (by kernel_rfl!) (fun _ _ => by kernel_rfl!) fun j0 t0 h₇ tk₇ I => ?_)
  refine wpAny_bind (wpAny_mkText ?_)
  dsimp only
  generalize tk₇ = tq
  refine wpAny_bind (store_cb I (fun a b => [⟨j0, .str (Str.ofString "__module__") t0, vn⟩, ⟨a, .str (Str.ofString "__qualname__") b, .str (Str.ofString "cmp_to_key.<locals>.K") tq⟩]) 2 (by kernel_rfl!) rfl (by kernel_rfl!) (fun _ _ => by kernel_rfl!) fun j1 t1 h₈ tk₈ I => ?_)
  refine wpAny_bind (wpAny_mkInt ?_)
  dsimp only
  generalize tk₈ = tl
  refine wpAny_bind (store_cb I (fun a b => [⟨j0, .str (Str.ofString "__module__") t0, vn⟩, ⟨j1, .str (Str.ofString "__qualname__") t1, .str (Str.ofString "cmp_to_key.<locals>.K") tq⟩, ⟨a, .str (Str.ofString "__firstlineno__") b, .int 7 tl⟩]) 3 (by kernel_rfl!) rfl (by kernel_rfl!) (fun _ _ => by kernel_rfl!) fun j2 t2 h₉ tk₉ I => ?_)
  (repeat ((fail_if_success (with_reducible show wpAny _ _ (_ >>= _) _ _ _)); (fail_if_success (with_reducible show wpAny _ _ (holding _ _) _ _ _)); (first | k_node | refine it0 (by kernel_rfl!) ?_ | refine it1 (by kernel_rfl!) ?_)))
  refine wpAny_bind (wpAny_run (codeAny_of_tree ?_))
  refine wpAny_bind (wpAny_of_eq (a := ()) (by kernel_rfl!) ?_)
  refine wpAny_bind (wpAny_onRaise ?_)
  refine wpAny_execs_cons (wpAny_Assign_Name ?_ (by kernel_rfl!))
  rw [eval_Constant]
  refine (show wpAny _ _ (mkText (Str.ofString "cpy313.functools")) _ _ _ from wpAny_mkText ?_)
  dsimp only
  generalize tk₉ = tm
  refine store_cb I (fun _ _ => [⟨j0, .str (Str.ofString "__module__") t0, .str (Str.ofString "cpy313.functools") tm⟩, ⟨j1, .str (Str.ofString "__qualname__") t1, .str (Str.ofString "cmp_to_key.<locals>.K") tq⟩, ⟨j2, .str (Str.ofString "__firstlineno__") t2, .int 7 tl⟩]) 3 (by kernel_rfl!) rfl (by kernel_rfl!) (fun _ _ => by kernel_rfl!) fun _ _ h₁₀ tk₁₀ I => ?_
  refine wpAny_execs_cons (wpAny_Assign_Name ?_ (by kernel_rfl!))
  rw [arm_eval_List]
  refine wpAny_bind (wpAny_standAt (wpAny_bind (Calls.spliced_cons ?_)))
  refine (show wpAny _ _ (mkText (Str.ofString "obj")) _ _ _ from wpAny_mkText ?_)
  refine Calls.spliced_nil ?_
  dsimp only
  generalize tk₁₀ = to
  refine (show wpAny _ _ (newObj (.type "list") _) _ _ _ from ex_new (by show 1 ≤ _; rw [sizeLine_eq]; lia) rfl fun sl h₁₁ k₁₁ hsl sl0 => ?_)
  replace I := I.add k₁₁ hsl sl0
  clear k₁₁ hsl sl0
  refine store_cb I (fun a b => [⟨j0, .str (Str.ofString "__module__") t0, .str (Str.ofString "cpy313.functools") tm⟩, ⟨j1, .str (Str.ofString "__qualname__") t1, .str (Str.ofString "cmp_to_key.<locals>.K") tq⟩, ⟨j2, .str (Str.ofString "__firstlineno__") t2, .int 7 tl⟩, ⟨a, .str (Str.ofString "__slots__") b, .ref sl⟩]) 4 (by kernel_rfl!) rfl (by kernel_rfl!) (fun _ _ => by kernel_rfl!) fun j3 t3 h₁₂ tk₁₂ I => ?_
  refine wpAny_execs_cons (def_cb (qual := Str.ofString "cmp_to_key.<locals>.K.__init__") (clos := []) I h23 T.g T.bmain (by kernel_rfl!) rfl (by kernel_rfl!) rfl rfl (by kernel_rfl!) rfl rfl rfl (fun v => by kernel_rfl!) rfl (by kernel_rfl!) (fun _ _ _ => by kernel_rfl!) fun fi ctfi cfi ofi vfi qfi jfi tfi hfi tkfi I d1fi d2fi d3fi => ?_)
  refine wpAny_execs_cons (def_cb (qual := Str.ofString "cmp_to_key.<locals>.K.__lt__") (clos := [(Str.ofString "mycmp", L + 1)]) I h23 T.g T.bmain (by kernel_rfl!) rfl (by kernel_rfl!) rfl rfl (by kernel_rfl!) rfl rfl rfl (fun v => by kernel_rfl!) rfl (by kernel_rfl!) (fun _ _ _ => by kernel_rfl!) fun fl ctfl cfl ofl vfl qfl jfl tfl hfl tkfl I d1fl d2fl d3fl => ?_)
  refine wpAny_execs_cons (def_cb (qual := Str.ofString "cmp_to_key.<locals>.K.__gt__") (clos := [(Str.ofString "mycmp", L + 1)]) I h23 T.g T.bmain (by kernel_rfl!) rfl (by kernel_rfl!) rfl rfl (by kernel_rfl!) rfl rfl rfl (fun v => by kernel_rfl!) rfl (by kernel_rfl!) (fun _ _ _ => by kernel_rfl!) fun fg ctfg cfg ofg vfg qfg jfg tfg hfg tkfg I d1fg d2fg d3fg => ?_)
  refine wpAny_execs_cons (def_cb (qual := Str.ofString "cmp_to_key.<locals>.K.__eq__") (clos := [(Str.ofString "mycmp", L + 1)]) I h23 T.g T.bmain (by kernel_rfl!) rfl (by kernel_rfl!) rfl rfl (by kernel_rfl!) rfl rfl rfl (fun v => by kernel_rfl!) rfl (by kernel_rfl!) (fun _ _ _ => by kernel_rfl!) fun fe ctfe cfe ofe vfe qfe jfe tfe hfe tkfe I d1fe d2fe d3fe => ?_)
  refine wpAny_execs_cons (def_cb (qual := Str.ofString "cmp_to_key.<locals>.K.__le__") (clos := [(Str.ofString "mycmp", L + 1)]) I h23 T.g T.bmain (by kernel_rfl!) rfl (by kernel_rfl!) rfl rfl (by kernel_rfl!) rfl rfl rfl (fun v => by kernel_rfl!) rfl (by kernel_rfl!) (fun _ _ _ => by kernel_rfl!) fun fle ctfle cfle ofle vfle qfle jfle tfle hfle tkfle I d1fle d2fle d3fle => ?_)
  refine wpAny_execs_cons (def_cb (qual := Str.ofString "cmp_to_key.<locals>.K.__ge__") (clos := [(Str.ofString "mycmp", L + 1)]) I h23 T.g T.bmain (by kernel_rfl!) rfl (by kernel_rfl!) rfl rfl (by kernel_rfl!) rfl rfl rfl (fun v => by kernel_rfl!) rfl (by kernel_rfl!) (fun _ _ _ => by kernel_rfl!) fun fge ctfge cfge ofge vfge qfge jfge tfge hfge tkfge I d1fge d2fge d3fge => ?_)
  refine wpAny_execs_cons (wpAny_Assign_Name ?_ (by kernel_rfl!))
  rw [eval_Constant]
  refine (show wpAny _ _ (pure Value.none) _ _ _ from wpAny_pure ?_)
  refine store_cbA I (by kernel_rfl!) rfl (by kernel_rfl!) (fun _ _ => by kernel_rfl!) fun jh th hh tkh I => ?_
  refine wpAny_execs_nil ?_
  refine wpAny_pure ?_
  refine wpAny_bind (wpAny_onRaise ?_)
  rw [show List.mapM mkText [Str.ofString "obj"] = (mkText (Str.ofString "obj") >>= fun a => pure [a]) from by kernel_rfl!]
  refine wpAny_bind (wpAny_bind (wpAny_mkText (wpAny_pure ?_)))
  refine wpAny_bind (ex_newT fun st hT kT eT T0 => ?_)
  replace I := I.add kT eT T0
  refine wpAny_bind (store_cbA I (by kernel_rfl!) rfl (by kernel_rfl!) (fun _ _ => by kernel_rfl!) fun js ts hs tks I => ?_)
  (repeat ((fail_if_success (with_reducible show wpAny _ _ (_ >>= _) _ _ _)); (fail_if_success (with_reducible show wpAny _ _ (holding _ _) _ _ _)); (first | k_node | refine it0 (by kernel_rfl!) ?_ | refine it1 (by kernel_rfl!) ?_)))
  have hCV : ∃ c : CV, hs.get? ns = some (dcO c.es12 12) ∧ c.sl = sl ∧ c.fi = fi ∧ c.fl = fl ∧ c.fg = fg ∧ c.fe = fe ∧ c.fle = fle ∧ c.fge = fge ∧ c.st = st := 
    ⟨⟨fun i => match i with | 0 => j0 | 1 => j1 | 2 => j2 | 3 => j3 | 4 => jfi | 5 => jfl | 6 => jfg | 7 => jfe | 8 => jfle | 9 => jfge | 10 => jh | _ => js,
      fun i => match i with | 0 => t0 | 1 => t1 | 2 => t2 | 3 => t3 | 4 => tfi | 5 => tfl | 6 => tfg | 7 => tfe | 8 => tfle | 9 => tfge | 10 => th | _ => ts, tm, tq, tl, sl, fi, fl, fg, fe, fle, fge, st⟩, I.hN.trans (by kernel_rfl!), rfl, rfl, rfl, rfl, rfl, rfl, rfl, rfl⟩
  obtain ⟨c, hNc, c1, c2, c3, c4, c5, c6, c7, c8⟩ := hCV
  have gt := fun a o (m : (a, o) ∈ _) => (I.fs (a, o) m).1
  have eBt := gt bt _ (by repeat (first | exact List.Mem.head _ | apply List.Mem.tail))
  have eSl := gt sl _ (by repeat (first | exact List.Mem.head _ | apply List.Mem.tail))
  have eSt := gt st _ (by repeat (first | exact List.Mem.head _ | apply List.Mem.tail))
  have eFi := gt fi _ (by repeat (first | exact List.Mem.head _ | apply List.Mem.tail))
  have eFl := gt fl _ (by repeat (first | exact List.Mem.head _ | apply List.Mem.tail))
  have eFg := gt fg _ (by repeat (first | exact List.Mem.head _ | apply List.Mem.tail))
  have eFe := gt fe _ (by repeat (first | exact List.Mem.head _ | apply List.Mem.tail))
  have eFle := gt fle _ (by repeat (first | exact List.Mem.head _ | apply List.Mem.tail))
  have eFge := gt fge _ (by repeat (first | exact List.Mem.head _ | apply List.Mem.tail))
  have eCi := gt cfi _ (by repeat (first | exact List.Mem.head _ | apply List.Mem.tail))
  have eCl := gt cfl _ (by repeat (first | exact List.Mem.head _ | apply List.Mem.tail))
  have eCg := gt cfg _ (by repeat (first | exact List.Mem.head _ | apply List.Mem.tail))
  have eLL := gt L _ (by repeat (first | exact List.Mem.head _ | apply List.Mem.tail))
  have eCe := gt (L + 1) _ (by repeat (first | exact List.Mem.head _ | apply List.Mem.tail))
  refine wpAny_bind ?_
  show wpAny _ _ (call (.type "type") [.str (Str.ofString "K") tk, .ref bt, .ref ns]) _ _ _
  refine ck_type (c := c) (to := to) eBt hNc ns1 ?hfun (c8 ▸ eSt) rfl (c1 ▸ eSl) (I.kp _ _ (by decide) h2) (r'.le (by decide)) fun C N md h' tk' k' K C0 N0 m0 => ?_
  case hfun =>
    intro x hx
    rw [c2, c3, c4, c5, c6, c7] at hx
    simp only [List.mem_cons, List.not_mem_nil, or_false] at hx
    rcases hx with rfl | rfl | rfl | rfl | rfl | rfl
    · exact ⟨_, eFi, rfl⟩
    · exact ⟨_, eFl, rfl⟩
    · exact ⟨_, eFg, rfl⟩
    · exact ⟨_, eFe, rfl⟩
    · exact ⟨_, eFle, rfl⟩
    · exact ⟨_, eFge, rfl⟩
  refine wpAny_pure ?_
  refine wpAny_bind (wpAny_of_eq (a := .ref C) rfl (wpAny_bind (wpAny_standAt (wpAny_bind ?_))))
  unfold bindName
  refine wpAny_bind (wpAny_holding (wpAny_point (wpAny_bind ?_)))
  have nsL : h'.Ns L _ := ⟨oL, esL, epL, k' _ _ eLL, eL2, eL3, eL4⟩
  refine wpAny_storeName_local (m := _) rfl nsL (fun hZ nsZ sZ => ?_)
  refine wpAny_point (wpAny_pure ?_)
  refine wpAny_execs_cons (wpAny_Return_some (wpAny_Name (wpAny_loadName_local rfl rfl nsZ rfl ?_)))
  have kZ : ∀ b o, b ≠ L → h'.get? b = some o → hZ.get? b = some o := fun b o hb e => (sZ.2 b hb).trans e
  have lt : ∀ b o, s.heap.get? b = some o → b ≠ L := fun b o e => by rw [hL]; exact Nat.ne_of_lt (Heap.lt_size e)
  have nL : ∀ b, hs.get? b = none → b ≠ L := fun b e q => by rw [q, eLL] at e; cases e
  have fL : ∀ b o f, hs.get? b = some o → o.data = .func f → b ≠ L := fun b o f e e' q => by
    rw [q, eLL] at e
    cases e
    rw [eL2] at e'
    cases e'
  have gL : ∀ b o f, hs.get? b = some o → o.data = .fields f → b ≠ L := fun b o f e e' q => by
    rw [q, eLL] at e
    cases e
    rw [eL2] at e'
    cases e'
  show Q (.ref C) _
  have e23 := gt 23 _ (by repeat (first | exact List.Mem.head _ | apply List.Mem.tail))
  have none' : ∀ z, hs.get? z = none → s.heap.get? z = none := fun z z0 => by
    cases q : s.heap.get? z with
    | none => rfl
    | some o =>
      by_cases hb : z = 23
      · rw [hb] at z0
        rw [show hs.get? 23 = none from z0] at e23
        cases e23
      · rw [I.kp _ _ hb q] at z0
        cases z0
  refine hQ C N md bt tk c (L + 1) hZ _ (fun b o hb e => kZ _ _ (lt b o e) (k' _ _ (I.kp b o hb e))) ⟨kZ _ _ (nL _ C0) K.hC, ?_, ?_⟩ ?_ ?_ ?_ ⟨o₁, kZ _ _ (Nat.succ_ne_self L) (k' _ _ eCe), hc⟩ (none' C C0) (none' N N0) (none' md m0) (Heap.get?_none_of_le (by rw [hL]; exact Nat.le_succ _)) ⟨pP, hPcls ▸ kZ _ _ (lt _ _ h23) (k' _ _ e23)⟩
  · obtain ⟨a, b, e, f, q⟩ := K.hN
    exact ⟨a, b, e, f, kZ _ _ (nL _ N0) q⟩
  · obtain ⟨a, q⟩ := K.hm
    exact ⟨a, kZ _ _ (nL _ m0) q⟩
  · rw [c2]
    exact ⟨cfi, ctfi, (mg (Str.ofString "__name__")).getD .none, (kZ _ _ (fL _ _ _ eFi rfl) (k' _ _ eFi)).trans (by kernel_rfl!), ⟨cfi, ofi, vfi, qfi, rfl, kZ _ _ (gL _ _ _ eCi d1fi) (k' _ _ eCi), d1fi, d2fi⟩, ofi, kZ _ _ (gL _ _ _ eCi d1fi) (k' _ _ eCi), d3fi⟩
  · rw [c3]
    exact ⟨cfl, ctfl, (mg (Str.ofString "__name__")).getD .none, (kZ _ _ (fL _ _ _ eFl rfl) (k' _ _ eFl)).trans (by kernel_rfl!), ⟨cfl, ofl, vfl, qfl, rfl, kZ _ _ (gL _ _ _ eCl d1fl) (k' _ _ eCl), d1fl, d2fl⟩, ofl, kZ _ _ (gL _ _ _ eCl d1fl) (k' _ _ eCl), d3fl⟩
  · rw [c4]
    exact ⟨cfg, ctfg, (mg (Str.ofString "__name__")).getD .none, (kZ _ _ (fL _ _ _ eFg rfl) (k' _ _ eFg)).trans (by kernel_rfl!), ⟨cfg, ofg, vfg, qfg, rfl, kZ _ _ (gL _ _ _ eCg d1fg) (k' _ _ eCg), d1fg, d2fg⟩, ofg, kZ _ _ (gL _ _ _ eCg d1fg) (k' _ _ eCg), d3fg⟩
end
end Mine
end
section
open PySem PySem.W PySem.W.X PySem.Calls PyProof.Rows
set_option Elab.async false
set_option maxRecDepth 100000
set_option maxHeartbeats 0
set_option linter.unusedVariables false
namespace Mine
noncomputable def PX (s : Shared) (C : Addr) (sl : Array (Option Value)) (v : Value) (s' : Shared) : Prop := ∃ x dx h' tk', v = .ref x ∧ s' = { s with heap := h', toks := tk' } ∧ (∀ b o, s.heap.get? b = some o → h'.get? b = some o) ∧ h'.get? x = some ⟨.ref C, some dx, .plain, sl⟩ ∧ s.heap.get? x = none
section
local macro_rules | `(tactic| x_close) => `(tactic| exact ⟨_, _, _, _, rfl, rfl, mem_keep (by assumption), Mem.at (by assumption) 0 _ _ rfl, mem_new (by assumption) 0 _ _ rfl⟩)
end
section
local macro_rules | `(tactic| x_close) => `(tactic| (exact ⟨_, _, _, _, rfl, rfl, mem_keep (by assumption), Mem.at (by assumption) 1 _ _ rfl, mem_new (by assumption) 1 _ _ rfl⟩))
set_option pp.deepTerms false in
set_option pp.maxSteps 1000 in
theorem k_call0 {w : World} {s : Shared} {E : Value → Shared → Prop} {C N bt md t cc : Addr} {tn tq tm tz : Tok} {hO tO hD tD} {hs : Nat → Int} {ts : Nat → Tok} {tm' tq' tl : Tok} {sl fi fl fg fe fle fge st : Addr} {pm ct : Value} {dc : Option Addr} {slc : Array (Option Value)} {a0 : Value} {rest : List Value}
   (h2 : s.heap.get? (nat_lit 2) = some ⟨.none, none, .dict #[] 0, #[]⟩)
   (hC : s.heap.get? C = some ⟨.type "type", none, .cls (kcd N [.ref C, .type "object"] false [Str.ofString "obj"]), #[some (.ref bt), none, some (.str (Str.ofString "K") tn), some (.str (Str.ofString "cmp_to_key.<locals>.K") tq), some (.builtin "object.__new__"), some (.bool false)]⟩)
   (hN : s.heap.get? N = some ⟨.type "dict", none, .dict ((CV.mk hs ts tm' tq' tl sl fi fl fg fe fle fge st).esD hO tO md hD tD).toArray 3, #[]⟩)
   (hm : s.heap.get? md = some ⟨.type "member_descriptor", none, .fields #[.str (Str.ofString "obj") tm, .ref C, .builtin "proto.slot", .builtin "proto.slot#set", rawInt 0], #[]⟩)
   (hi : s.heap.get? fi = some ⟨.type "function", none, .func (fnX (Str.ofString "__init__") (Str.ofString "cmp_to_key.<locals>.K.__init__") (mth "__init__").1 (mth "__init__").2.1 (mth "__init__").2.2 [] .none .none .none pm none (.ref cc) ct), #[]⟩)
   (hc : s.heap.get? cc = some ⟨.type "code", dc, .fields ⟨a0 :: .str (Str.ofString "cmp_to_key.<locals>.K.__init__") tz :: rest⟩, slc⟩)
   : wpAny (model PR w) ⟨none, 900, none, none, 9000⟩ (call (.ref C) [.ref t]) (PX s C #[some (.ref t)]) E s := by
  x_run
end
end Mine
end
section
open PySem PySem.W PySem.W.X PySem.Calls PyProof.Rows
set_option Elab.async false
set_option maxRecDepth 100000
set_option maxHeartbeats 0
set_option linter.unusedVariables false
namespace Mine
noncomputable def PV (s : Shared) (r : Value) (v : Value) (s' : Shared) : Prop := v = r ∧ ∃ h' tk', s' = { s with heap := h', toks := tk' } ∧ (∀ b o, s.heap.get? b = some o → h'.get? b = some o)
section
local macro_rules | `(tactic| x_close) => `(tactic| first | exact ⟨rfl, _, _, rfl, mem_keep (by assumption)⟩ | exact ⟨rfl, _, _, rfl, fun _ _ e => e⟩)
theorem k_get0 {w : World} {s : Shared} {E : Value → Shared → Prop} {C N bt md t x dx : Addr} {tn tq tm tz : Tok} {hO tO hD tD} {hs : Nat → Int} {ts : Nat → Tok} {tm' tq' tl : Tok} {sl fi fl fg fe fle fge st : Addr}
   (hC : s.heap.get? C = some ⟨.type "type", none, .cls (kcd N [.ref C, .type "object"] false [Str.ofString "obj"]), #[some (.ref bt), none, some (.str (Str.ofString "K") tn), some (.str (Str.ofString "cmp_to_key.<locals>.K") tq), some (.builtin "object.__new__"), some (.bool false)]⟩)
   (hN : s.heap.get? N = some ⟨.type "dict", none, .dict ((CV.mk hs ts tm' tq' tl sl fi fl fg fe fle fge st).esD hO tO md hD tD).toArray 3, #[]⟩)
   (hm : s.heap.get? md = some ⟨.type "member_descriptor", none, .fields #[.str (Str.ofString "obj") tm, .ref C, .builtin "proto.slot", .builtin "proto.slot#set", rawInt 0], #[]⟩)
   (hx : s.heap.get? x = some ⟨.ref C, some dx, .plain, #[some (.ref t)]⟩)
   : wpAny (model PR w) ⟨none, 900, none, none, 9000⟩ (runValue (.builtin "proto.getattr_hooked" ⟨[.ref x, .str (Str.ofString "obj") tz], []⟩)) (PV s (.ref t)) E s := by
  x_run
end
/-- a thing of the class -/
noncomputable def InsK (C t x : Addr) (h : Heap) : Prop := ∃ dx, h.get? x = some ⟨.ref C, some dx, .plain, #[some (.ref t)]⟩
theorem InsK.keeps {C t x : Addr} {h h' : Heap} (i : InsK C t x h) (k : ∀ b o, h.get? b = some o → h'.get? b = some o) : InsK C t x h' := let ⟨d, e⟩ := i; ⟨d, k _ _ e⟩
section
variable {w : World} {A : Around} {E : Value → Shared → Prop} {h : Heap} {g : Array GenState} {d : Drawn} {tk : Nat} {os : OsState}
theorem k_attr {c : CV} {bt C N md x t : Addr} {tn : Tok} {Q : Value → Shared → Prop} {ex : Bool} (K : KC c bt tn C N md h) (i : InsK C t x h) (r : Rm A 3)
    (hQ : ∀ h' tk', (∀ b o, h.get? b = some o → h'.get? b = some o) → Q (.ref t) ⟨h', g, d, tk', os⟩) : wpAny (model PR w) A (getAttr (.ref x) (Str.ofString "obj") ex) Q E ⟨h, g, d, tk, os⟩ := by
  obtain ⟨dx, hx⟩ := i
  obtain ⟨hO, tO, hD, tD, hN⟩ := K.hN
  obtain ⟨t1, hm⟩ := K.hm
  have hC := K.hC
  unfold getAttr mkText
  refine wpAny_bind (wpAny_bind (wpAny_fresh' (wpAny_pure ?_)))
  unfold getAttrBy
  refine wpAny_holding ?_
  refine wpAny_bind (wpAny_typeOf_ref hx ?_)
  refine wpAny_bind (ex_lookup hC hN (r := none) (y := some (.builtin "object.__getattribute__")) (by kernel_rfl!) (by kernel_rfl!) ?_)
  (repeat ((fail_if_success (with_reducible show wpAny _ _ (_ >>= _) _ _ _)); (fail_if_success (with_reducible show wpAny _ _ (holding _ _) _ _ _)); (first | k_node | refine it0 (by kernel_rfl!) ?_ | refine it1 (by kernel_rfl!) ?_)))
  refine wpAny_bind (wpAny_onRaise ?_)
  obtain ⟨hs, ts, tm', tq', tl, sl, fi, fl, fg, fe, fle, fge, st⟩ := c
  refine wpAny_mono (xA r (k_get0 (E := fun _ _ => False) hC hN hm hx)) ?_ fun _ _ e => e.elim
  rintro v s' ⟨rfl, h', tk', rfl, k⟩
  exact wpAny_pure (hQ h' tk' k)
/-- the key is made -/
theorem k_make {c : CV} {bt C N md t : Addr} {tn : Tok} {Q : Value → Shared → Prop} (K : KC c bt tn C N md h) (m : MthAt "__init__" "cmp_to_key.<locals>.K.__init__" [] c.fi h) (h2 : h.get? cStatics = some ⟨.none, none, .dict #[] 0, #[]⟩) (r : Rm A 3)
    (hQ : ∀ x h' tk', (∀ b o, h.get? b = some o → h'.get? b = some o) → InsK C t x h' → Q (.ref x) ⟨h', g, d, tk', os⟩) : wpAny (model PR w) A (call (.ref C) [.ref t]) Q E ⟨h, g, d, tk, os⟩ := by
  obtain ⟨hO, tO, hD, tD, hN⟩ := K.hN
  obtain ⟨t1, hm⟩ := K.hm
  have hC := K.hC
  obtain ⟨cc, ct, pm, hi, ⟨c₂, oc, vs, tz, q, hc, hd, h1⟩, oc', hc', hcl⟩ := m
  cases q
  obtain rfl : oc' = oc := Option.some.inj (hc'.symm.trans hc)
  obtain ⟨ac, dc, dt, slc⟩ := oc'
  dsimp only at hd hcl
  subst hd hcl
  obtain ⟨l⟩ := vs
  match l, h1 with
  | a0 :: a1 :: rest, h1 =>
    have e : a1 = .str (Str.ofString "cmp_to_key.<locals>.K.__init__") tz := by simpa using h1
    subst e
    obtain ⟨hs, ts, tm', tq', tl, sl, fi, fl, fg, fe, fle, fge, st⟩ := c
    refine wpAny_mono (xA r (k_call0 (E := fun _ _ => False) h2 hC hN hm hi hc)) ?_ fun _ _ e => e.elim
    rintro v s' ⟨x, dx, h', tk', rfl, rfl, k, hx, _⟩
    exact hQ x h' tk' k ⟨dx, hx⟩
  | [_], h1 => simp at h1
  | [], h1 => simp at h1
end
end Mine
end
section
open PySem PySem.W PySem.Calls PyProof.Rows
set_option Elab.async false
set_option maxRecDepth 100000
set_option maxHeartbeats 8000000
set_option linter.unusedVariables false
namespace Mine
noncomputable abbrev cmpB (op : CmpOp) (p0 p1 p2 p3 p4 p5 p6 p7 p8 : Pos) : List Stmt := [.Return (some (.Compare (.Call (.Name (Str.ofString "mycmp") p0) [.Attribute (.Name (Str.ofString "self") p1) (Str.ofString "obj") p2, .Attribute (.Name (Str.ofString "other") p3) (Str.ofString "obj") p4] [] p5) [op] [.Constant (.int 0) 0 p6] p7)) p8]
noncomputable abbrev cmpP (q0 q1 : Pos) : Arguments := ⟨[], [⟨Str.ofString "self", none, q0⟩, ⟨Str.ofString "other", none, q1⟩], none, [], [], none, []⟩
noncomputable abbrev cmpS' : Scope := { kind := .function, names := [(Str.ofString "self", .local), (Str.ofString "other", .local), (Str.ofString "mycmp", .free)], isGenerator := false, isCoroutine := false }
theorem mth_lt : ∃ q0 q1 p0 p1 p2 p3 p4 p5 p6 p7 p8, mth "__lt__" = (cmpP q0 q1, cmpB .Lt p0 p1 p2 p3 p4 p5 p6 p7 p8, cmpS') := ⟨_, _, _, _, _, _, _, _, _, _, _, rfl⟩
theorem mth_gt : ∃ q0 q1 p0 p1 p2 p3 p4 p5 p6 p7 p8, mth "__gt__" = (cmpP q0 q1, cmpB .Gt p0 p1 p2 p3 p4 p5 p6 p7 p8, cmpS') := ⟨_, _, _, _, _, _, _, _, _, _, _, rfl⟩
theorem ne100 {h : Heap} {ps : Array Value} {b : Addr} {o : Obj} (h100 : h.get? 100 = some (tabObj ps)) (e : h.get? b = some o) (hc : o.cls ≠ .none) : b ≠ 100 := fun q => by
  rw [q, h100] at e
  cases e
  exact hc rfl
section
variable {w : World} {loose : List Str} {mean : ExcName → Option Value} {mg mb : Str → Option Value} {A : Around} {s : Shared} {Q E : Value → Shared → Prop}
theorem k_cmp {op : CmpOp} {n q : String} {f mf x y a b cl C N md bt cd : Addr} {c : CV} {tn : Tok} {pm ct : Value} {z : Int} {res : Int → Bool} {q0 q1 p0 p1 p2 p3 p4 p5 p6 p7 p8 : Pos} (W : Wd w loose mean mg mb s.heap) (r : Rm A 12) (K : KC c bt tn C N md s.heap) (ix : InsK C a x s.heap) (iy : InsK C b y s.heap)
    (ho : s.heap.get? f = some { cls := .type "function", data := .func (fnX (Str.ofString n) (Str.ofString q) (cmpP q0 q1) (cmpB op p0 p1 p2 p3 p4 p5 p6 p7 p8) cmpS' [(Str.ofString "mycmp", cl)] .none .none .none pm none (.ref cd) ct) }) (hr : s.heap.CodeRec (.ref cd) (Str.ofString q)) (hcc : ∃ o, s.heap.get? cd = some o ∧ o.cls = .type "code")
    (hcl : ∃ o, s.heap.get? cl = some o ∧ o.data = .cell (some (.ref mf))) (hm : FnAt mf s.heap) (hop : behindInMarks op (.Constant (.int 0) 0 p6) = false) (hcmp : ∀ (B : Around) (t u : Tok) (s : Shared) (Q E : Value → Shared → Prop), Q (.bool (res z)) s → wpAny (model PR w) B (compareOp op (.int z t) (.int 0 u)) Q E s)
    (hf : ∀ (B : Around) (s' : Shared), Rm B 9 → St0 s s' → wpAny (model PR w) B (call (.ref mf) [.ref a, .ref b]) (fun v s'' => Stp s' s'' ∧ ∃ t, v = .int z t) (fun _ _ => False) s')
    (hQ : ∀ s', Stp s s' → Q (.bool (res z)) s') : wpAny (model PR w) A (call (.ref f) [.ref x, .ref y]) Q E s := by
  have X := W.X
  have T := W.T
  obtain ⟨Ah, Ad, Af, Ag, Au⟩ := A
  obtain rfl : Ah = none := r.1
  obtain ⟨psT, hT, VT⟩ := id W.tab
  have hrg : (gh s.heap).CodeRec (.ref cd) (Str.ofString q) := by
    obtain ⟨c₂, oc, vs', t2, e, g2, d1, d2⟩ := hr
    cases e
    obtain ⟨oc', e1, e2⟩ := hcc
    rw [g2] at e1
    cases e1
    exact ⟨_, oc, vs', t2, rfl, gh_ne g2 (ne100 hT g2 (by rw [e2]; intro z; cases z)), d1, d2⟩
  refine enter W r (gh_ne ho (ne100 hT ho (by intro z; cases z))) rfl hrg (BindsTo.of_eq rfl) (locs rfl) ?_
  intro ps h₁ tk V h100 r' x₁ F N'
  have kAll : ∀ b o, s.heap.get? b = some o → h₁.get? b = some o := fun b o e => by
    by_cases hb : b = 100
    · subst hb
      rw [h100] at e
      cases e
      exact (N' (100, tabObj ps) (by simp)).1
    · exact x₁ b o hb e
  obtain ⟨oc, hoc, hod⟩ := hcl
  obtain ⟨om, fd, hmo, hmd⟩ := hm
  refine wpAny_execs_cons (wpAny_Return_some (wpAny_Compare1 ?_ hop))
  refine wpAny_Call_Name_kw (wpAny_Name (wpAny_loadName_free rfl rfl rfl ⟨oc, kAll _ _ hoc, hod⟩ ?_))
  refine callWith_function_kw (o := om) (fd := fd) (Calls.evalArgs_plain (Calls.spliced_cons ?_))
  rw [arm_eval_Attribute]
  refine wpAny_bind (show wpAny _ _ (eval (.Name (Str.ofString "self") p1) _) _ _ _ from wpAny_Name (wpAny_loadName_local rfl rfl F.ns rfl ?_))
  refine wpAny_bind (wpAny_standAt (wpAny_bind (wpAny_holding (k_attr (K.keeps kAll) (ix.keeps kAll) (r'.le (by decide)) fun h₂ tk₂ k₂ => ?_))))
  refine wpAny_bind (wpAny_letTemporaryGo (wpAny_pure ?_))
  refine Calls.spliced_cons ?_
  rw [arm_eval_Attribute]
  refine wpAny_bind (show wpAny _ _ (eval (.Name (Str.ofString "other") p3) _) _ _ _ from wpAny_Name (wpAny_loadName_local rfl rfl (F.ns.keeps k₂) rfl ?_))
  refine wpAny_bind (wpAny_standAt (wpAny_bind (wpAny_holding (k_attr ((K.keeps kAll).keeps k₂) ((iy.keeps kAll).keeps k₂) (r'.le (by decide)) fun h₃ tk₃ k₃ => ?_))))
  refine wpAny_bind (wpAny_letTemporaryGo (wpAny_pure ?_))
  have k13 : ∀ b o, s.heap.get? b = some o → h₃.get? b = some o := fun b o e => k₃ _ _ (k₂ _ _ (kAll b o e))
  refine Calls.spliced_nil ⟨⟨k13 _ _ hmo, hmd⟩, ?_⟩
  refine wpAny_mono (hf _ { s with heap := h₃, toks := tk₃ } (r'.le (by decide)) ⟨h₃, tk₃, rfl, k13⟩) ?_ fun _ _ e => e.elim
  rintro v s'' ⟨st, t, rfl⟩
  rw [eval_Constant]
  refine (show wpAny _ _ (mkInt 0) _ _ _ from wpAny_mkInt ?_)
  refine hcmp _ _ _ _ _ _ ?_
  have st' : Stp s s'' := by
    obtain ⟨h₄, tk₄, e4, x4, t4⟩ := st
    exact ⟨h₄, tk₄, e4, fun b o hb e => x4 b o hb (k13 b o e), t4⟩
  refine hQ _ ?_
  obtain ⟨h₄, tk₄, rfl, x4, t4⟩ := st'
  exact ⟨h₄, _, rfl, x4, t4⟩
end
end Mine
end
section
open PySem PySem.W PySem.Calls PyProof.Rows
set_option Elab.async false
set_option maxRecDepth 100000
set_option maxHeartbeats 8000000
set_option linter.unusedVariables false
namespace Mine
theorem kc_ns {c : CV} {bt C N md : Addr} {tn : Tok} {h : Heap} (K : KC c bt tn C N md h) : ∃ mN, h.Ns N mN ∧ mN (Str.ofString "__lt__") = some (.ref c.fl) ∧ mN (Str.ofString "__gt__") = some (.ref c.fg) := by
  obtain ⟨hO, tO, hD, tD, hN⟩ := K.hN
  refine ⟨fun x => nsFind (c.esD hO tO md hD tD).toArray x, ⟨_, _, _, hN, rfl, ?_, fun x => rfl⟩, by kernel_rfl!, by kernel_rfl!⟩
  intro e he
  simp only [List.mem_toArray, List.mem_append, List.mem_cons, List.not_mem_nil, or_false] at he
  rcases he with (rfl | rfl | rfl | rfl | rfl | rfl | rfl | rfl | rfl | rfl | rfl) | rfl | rfl <;> exact ⟨_, _, rfl⟩
theorem kc_own {c : CV} {bt C N md x a : Addr} {tn : Tok} {h : Heap} {f : Addr} {name : Str} {of : Obj} {y : Option Value} (K : KC c bt tn C N md h) (i : InsK C a x h) {mN : Str → Option Value} (hn : h.Ns N mN) (hm : mN name = some (.ref f)) (hf : h.get? f = some of) (hfc : of.cls = .type "function") (hy : typeLookup (.type "object") name = pure y) : h.OwnSpecial x C f "object" name := by
  obtain ⟨dx, hx⟩ := i
  exact ⟨_, of, _, _, N, _, [.type "object"], _, _, _, _, _, _, _, _, _, _, _, _, mN, y, hx, rfl, K.hC, hn, hm, hf, hfc, by kernel_rfl!, hy⟩
section
variable {w : World} {loose : List Str} {mean : ExcName → Option Value} {mg mb : Str → Option Value} {A : Around} {s : Shared}
theorem gt_int {prog : Program} {B : Around} {a : Int} {t u : Tok} {s : Shared} {Q E : Value → Shared → Prop} (h : Q (.bool (decide (0 < a))) s) : wpAny (model prog w) B (compareOp .Gt (.int a t) (.int 0 u)) Q E s := by
  show wpAny _ _ (richCompare .Gt (.int a t) (.int 0 u)) Q E s
  exact richCompare_gives (op := .Gt) (typeIs_int s a t) (typeIs_int s 0 u) PySem.F.slot_int_gt PySem.F.entry_int_gt (PySem.F.args_int_gt_2 _ _) (gives_int_gt _ _ t u) (fun x => nomatch x) h
theorem key_lt {x y a b cl mf C N md bt : Addr} {c : CV} {tn : Tok} {z : Int} (W : Wd w loose mean mg mb s.heap) (r : Rm A 12) (K : KC c bt tn C N md s.heap) (ml : MthAt "__lt__" "cmp_to_key.<locals>.K.__lt__" [(Str.ofString "mycmp", cl)] c.fl s.heap)
    (hcl : ∃ o, s.heap.get? cl = some o ∧ o.data = .cell (some (.ref mf))) (hm : FnAt mf s.heap) (ix : InsK C a x s.heap) (iy : InsK C b y s.heap)
    (hf : ∀ (B : Around) (s' : Shared), Rm B 9 → St0 s s' → wpAny (model PR w) B (call (.ref mf) [.ref a, .ref b]) (fun v s'' => Stp s' s'' ∧ ∃ t, v = .int z t) (fun _ _ => False) s') :
    wpAny (model PR w) A (keyLt' oneType' (.ref x) (.ref y)) (fun v s' => v = decide (z < 0) ∧ Stp s s') (fun _ _ => False) s := by
  obtain ⟨mN, hns, m1, m2⟩ := kc_ns K
  obtain ⟨cd, ct, pm, ho, hr, hcc⟩ := id ml
  have X := kc_own (y := some (.builtin "object.__lt__")) K ix hns m1 ho rfl (by kernel_rfl!)
  obtain ⟨q0, q1, p0, p1, p2, p3, p4, p5, p6, p7, p8, em⟩ := mth_lt
  rw [em] at ho
  rw [keyLt'_oneType, oneLt'_eq]
  simp only [if_true]
  obtain ⟨h, g, d, tk, os⟩ := s
  refine wpAny_bind (wpAny_cRoomFor (by have := r.units; exact fk1 1 1 (.a (.v 0) (.n 1)) (.v 1) (.a (.a (.v 0) (.n 100)) (.n 1)) (.v 1) rfl [_, _] this) ?_)
  refine wpAny_bind (wpAny_callSpecialIfBound?_own X ?_)
  refine k_cmp (res := fun z => decide (z < 0)) W r K ix iy ho hr hcc hcl hm rfl (fun B t u s Q E h => wpAny_lt_int h) hf fun s' st => ?_
  exact wpAny_truthy_bool ⟨rfl, st⟩
theorem key_gt {x y a b cl mf C N md bt : Addr} {c : CV} {tn : Tok} {z : Int} (W : Wd w loose mean mg mb s.heap) (r : Rm A 12) (K : KC c bt tn C N md s.heap) (ml : MthAt "__gt__" "cmp_to_key.<locals>.K.__gt__" [(Str.ofString "mycmp", cl)] c.fg s.heap)
    (hcl : ∃ o, s.heap.get? cl = some o ∧ o.data = .cell (some (.ref mf))) (hm : FnAt mf s.heap) (ix : InsK C a x s.heap) (iy : InsK C b y s.heap)
    (hf : ∀ (B : Around) (s' : Shared), Rm B 9 → St0 s s' → wpAny (model PR w) B (call (.ref mf) [.ref a, .ref b]) (fun v s'' => Stp s' s'' ∧ ∃ t, v = .int z t) (fun _ _ => False) s') :
    wpAny (model PR w) A (richCompare .Gt (.ref x) (.ref y)) (fun v s' => v = .bool (decide (0 < z)) ∧ Stp s s') (fun _ _ => False) s := by
  obtain ⟨mN, hns, m1, m2⟩ := kc_ns K
  obtain ⟨cd, ct, pm, ho, hr, hcc⟩ := id ml
  have X := kc_own (y := some (.builtin "object.__gt__")) K ix hns m2 ho rfl (by kernel_rfl!)
  obtain ⟨q0, q1, p0, p1, p2, p3, p4, p5, p6, p7, p8, em⟩ := mth_gt
  rw [em] at ho
  obtain ⟨h, g, d, tk, os⟩ := s
  obtain ⟨dy, hy⟩ := id iy
  refine richCompare_own_same (sym := (cmpInfo .Gt).1) (f := (cmpInfo .Gt).2.1) (r := (cmpInfo .Gt).2.2) rfl X hy rfl (by have := r.units; exact fk1 1 1 (.a (.v 0) (.n 1)) (.v 1) (.a (.a (.v 0) (.n 100)) (.n 1)) (.v 1) rfl [_, _] this) ?_
  exact k_cmp (res := fun z => decide (0 < z)) W r K ix iy ho hr hcc hcl hm rfl (fun B t u s Q E h => gt_int h) hf fun s' st => ⟨_, rfl, rfl, st⟩
end
end Mine
end
section
open PySem PySem.W PySem.Calls PyProof.Rows
set_option Elab.async false
set_option maxRecDepth 100000
set_option maxHeartbeats 8000000
set_option linter.unusedVariables false
namespace Mine
noncomputable abbrev lamB (p0 p1 p2 p3 p4 p5 p6 p7 p8 : Pos) : Expr := .Call (.Name (Str.ofString "_law_turn") p0) [.Subscript (.Name (Str.ofString "one") p1) (.Constant (.int 0) 0 p2) p3, .Subscript (.Name (Str.ofString "two") p4) (.Constant (.int 0) 0 p5) p6, .Name (Str.ofString "wishes") p7] [] p8
noncomputable abbrev lamP (q0 q1 : Pos) : Arguments := ⟨[], [⟨Str.ofString "one", none, q0⟩, ⟨Str.ofString "two", none, q1⟩], none, [], [], none, []⟩
noncomputable abbrev lamS : Scope := { kind := .function, names := [(Str.ofString "one", .local), (Str.ofString "two", .local), (Str.ofString "wishes", .free), (Str.ofString "_law_turn", .globalImplicit)], isGenerator := false, isCoroutine := false }
theorem sub0 {w : World} {A : Around} {E : Value → Shared → Prop} {h : Heap} {g : Array GenState} {d : Drawn} {tk : Nat} {os : OsState} {env : Env} {l : Addr} {items : Array Value} {v : Value} {x : Str} {m : Str → Option Value} {p1 p2 p3 : Pos} {Q : Value → Shared → Prop} (hk : env.scope.kind = .function) (hl : env.kindOf x = some .local) (hn : h.Ns env.locals m) (hv : m x = some (.ref l)) (hL : h.IsList l items) (h0 : items[0]? = some v)
    (hd : (x == ("__debug__" : Str)) = false) (hQ : ∀ tk', Q v ⟨h, g, d, tk', os⟩) : wpAny (model PR w) A (eval (.Subscript (.Name x p1) (.Constant (.int 0) 0 p2) p3) env) Q E ⟨h, g, d, tk, os⟩ := by
  refine wpAny_Subscript_Constant_late (wpAny_Name (wpAny_loadName_local hk hl hn hv ?_) hd)
  rw [eval_Constant]
  refine (show wpAny _ _ (mkInt 0) _ _ _ from wpAny_mkInt ?_)
  exact ⟨"list", _, slot_list_getitem.lookup, hL.typeIs, wpAny_getItem_list hL (by decide) (by decide) h0 (hQ _)⟩
section
variable {w : World} {loose : List Str} {mean : ExcName → Option Value} {mg mb : Str → Option Value} {A : Around} {s : Shared}
theorem c_klam {f a b ta tb D cw c' : Addr} {pm ct fa fb : Value} {na nb : Nat} {name qual : Str} {x y : Th} {ws : List (Int × Bool)} {q0 q1 p0 p1 p2 p3 p4 p5 p6 p7 p8 : Pos} (W : Wd w loose mean mg mb s.heap) (r : Rm A 9)
    (ho : s.heap.get? f = some (kla_obj name qual (lamP q0 q1) (lamB p0 p1 p2 p3 p4 p5 p6 p7 p8) lamS [(Str.ofString "wishes", cw)] pm c' ct)) (hrec : s.heap.CodeRec (.ref c') qual)
    (hcw : ∃ o, s.heap.get? cw = some o ∧ o.data = .cell (some (.ref D))) (ha : s.heap.get? a = some (PySem.W.listOf #[.ref ta, fa] na)) (hb : s.heap.get? b = some (PySem.W.listOf #[.ref tb, fb] nb)) (hta : ThAt s.heap ta x) (htb : ThAt s.heap tb y) (hD : WsAt s.heap D ws) :
    wpAny (model PR w) A (call (.ref f) [.ref a, .ref b]) (fun v s' => Stp s s' ∧ ∃ t, v = .int (red (ws.map (ask1 x y))) t) (fun _ _ => False) s := by
  have X := W.X
  have T := W.T
  obtain ⟨Ah, Ad, Af, Ag, Au⟩ := A
  obtain rfl : Ah = none := r.1
  obtain ⟨psT, hT, VT⟩ := id W.tab
  have ne : ∀ a its n, s.heap.get? a = some (PySem.W.listOf its n) → a ≠ 100 := fun a its n e q => by rw [q, hT] at e; cases e
  refine enterL W r ho rfl hrec rfl (locs rfl) ?_
  intro ps h₁ tk V h100 hlt r' x₁ kAll F N
  have hAl : h₁.IsList a #[.ref ta, fa] := ⟨_, kAll _ _ ha, rfl, _, rfl⟩
  have hBl : h₁.IsList b #[.ref tb, fb] := ⟨_, kAll _ _ hb, rfl, _, rfl⟩
  have hG : h₁.Ns mainGlobals mg := T.g.keeps F.keep
  obtain ⟨ow, how, hwd⟩ := hcw
  refine wpAny_Call_Name_kw (wpAny_Name (ks_loadName_global rfl rfl (loadGlobal_global (v := .ref 103) hG (mg_of X T.g (by kernel_rfl!)) ?_)))
  obtain ⟨o3, fd3, e3, d3⟩ : FnAt 103 (gh s.heap) := ⟨_, _, X 103 _ (by k_is), rfl⟩
  refine callWith_function_kw (o := o3) (fd := fd3) (Calls.evalArgs_plain (Calls.spliced_cons ?_))
  refine sub0 rfl rfl F.ns rfl hAl rfl rfl fun tk₂ => ?_
  refine Calls.spliced_cons ?_
  refine sub0 rfl rfl F.ns rfl hBl rfl rfl fun tk₃ => ?_
  refine Calls.spliced_cons ?_
  refine wpAny_Name (wpAny_loadName_free rfl rfl rfl ⟨ow, kAll _ _ how, hwd⟩ ?_)
  refine Calls.spliced_nil ⟨⟨F.keep _ _ e3, d3⟩, ?_⟩
  have W1 := W.mid F N V (by simp)
  have h1 : ∃ ps, s.heap.get? 100 = some (tabObj ps) := ⟨_, hT⟩
  have ta1 : ThAt h₁ ta x := let ⟨a0, a1, a2, a3, e⟩ := hta; ⟨a0, a1, a2, a3, kAll _ _ e⟩
  have tb1 : ThAt h₁ tb y := let ⟨a0, a1, a2, a3, e⟩ := htb; ⟨a0, a1, a2, a3, kAll _ _ e⟩
  refine c_turn (s := { s with heap := h₁, toks := _ }) W1 (r'.le (by decide)) ta1 tb1 (hD.keeps (fun b o _ e => kAll b o e) h1) ?_
  rintro t s' ⟨h₂, tk₂', rfl, x2, t2⟩
  exact ⟨⟨h₂, tk₂', rfl, fun b o hb e => x2 b o hb (kAll b o e), t2⟩, t, rfl⟩
end
end Mine
end
section
open PySem PySem.W PyProof.Rows
set_option Elab.async false
namespace Mine

noncomputable def evK {α : Type} (lt : Nat → Nat → Bool) : KasT α → α
  | .ret a => a
  | .ask i j k => evK lt (k (lt i j))
noncomputable def BelowK {α : Type} (n : Nat) : KasT α → Prop
  | .ret _ => True
  | .ask i j k => i < n ∧ j < n ∧ ∀ b, BelowK n (k b)
theorem evK_bind {α β : Type} {lt : Nat → Nat → Bool} {f : α → KasT β} : ∀ (t : KasT α), evK lt (t.bind f) = evK lt (f (evK lt t))
  | .ret _ => rfl
  | .ask i j k => evK_bind (k (lt i j))
theorem BelowK.bind {α β : Type} {n : Nat} {f : α → KasT β} : ∀ (t : KasT α), BelowK n t → (∀ a, BelowK n (f a)) → BelowK n (t.bind f)
  | .ret a, _, h => h a
  | .ask _ _ k, h, h' => ⟨h.1, h.2.1, fun b => BelowK.bind (k b) (h.2.2 b) h'⟩
/-- a bind whose first part hands on what it keeps -/
noncomputable def AllK {α : Type} (P : α → Prop) : KasT α → Prop
  | .ret a => P a
  | .ask _ _ k => ∀ b, AllK P (k b)
theorem AllK.bind {α β : Type} {P : β → Prop} {R : α → Prop} {f : α → KasT β} : ∀ (t : KasT α), AllK R t → (∀ a, R a → AllK P (f a)) → AllK P (t.bind f)
  | .ret a, h, h' => h' a h
  | .ask _ _ k, h, h' => fun b => AllK.bind (k b) (h b) h'
theorem BelowK.bind' {α β : Type} {n : Nat} {R : α → Prop} {f : α → KasT β} : ∀ (t : KasT α), BelowK n t → AllK R t → (∀ a, R a → BelowK n (f a)) → BelowK n (t.bind f)
  | .ret a, _, h, h' => h' a h
  | .ask _ _ k, h, g, h' => ⟨h.1, h.2.1, fun b => BelowK.bind' (k b) (h.2.2 b) (g b) h'⟩

theorem wp_evK {α : Type} {cmp : Nat → Nat → (Bool → Shared → Prop) → Shared → Prop} {lt : Nat → Nat → Bool} {n : Nat} (I : Shared → Prop)
    (hc : ∀ i j s C, i < n → j < n → I s → (∀ s', I s' → C (lt i j) s') → cmp i j C s) {Q : α → Shared → Prop} : ∀ (t : KasT α) (s : Shared), BelowK n t → I s → (∀ s', I s' → Q (evK lt t) s') → t.kasWp cmp Q s
  | .ret _, s, _, hI, hQ => hQ s hI
  | .ask i j k, s, hb, hI, hQ => hc i j s _ hb.1 hb.2.1 hI fun s' hI' => wp_evK I hc (k (lt i j)) s' (hb.2.2 _) hI' hQ

noncomputable def LowP (n : Nat) (p : Array Nat) : Prop := ∀ k, p.getD k 0 < n

theorem getD_opt (p : Array Nat) (k : Nat) : p.getD k 0 = (p[k]?).getD 0 := by simp
theorem rev_getD {p : Array Nat} {i j : Nat} (hj : j ≤ p.size) (k : Nat) : (kas_rev p i j).getD k 0 = if i ≤ k ∧ k < j then p.getD (i + j - 1 - k) 0 else p.getD k 0 := by
  rw [getD_opt, getD_opt, getD_opt]
  unfold kas_rev
  rw [getElem?_mirror_all hj]
  split <;> rfl
theorem bub_getD {p : Array Nat} {k d : Nat} (hs : k < p.size) (hd : d ≤ k) (j : Nat) : (bubble p k d).getD j 0 = if j = k - d then p.getD k 0 else if k - d < j ∧ j ≤ k then p.getD (j - 1) 0 else p.getD j 0 := by
  rw [getD_opt, getD_opt, getD_opt, getD_opt]
  rw [getElem?_bubble hs d hd]
  repeat' split
  all_goals rfl
theorem low_iff {n : Nat} {p : Array Nat} (hn : 0 < n) : LowP n p ↔ ∀ x ∈ p.toList, x < n := by
  constructor
  · intro h x hx
    obtain ⟨k, hk⟩ := List.mem_iff_getElem?.mp hx
    have := h k
    rw [getD_opt, ← Array.getElem?_toList, hk] at this
    exact this
  · intro h k
    rw [getD_opt, ← Array.getElem?_toList]
    cases e : p.toList[k]? with
    | none => exact hn
    | some x => exact h x (List.mem_of_getElem? e)
theorem low_perm {n : Nat} {p q : Array Nat} (hn : 0 < n) (h : q.Perm p) (l : LowP n p) : LowP n q := (low_iff hn).mpr fun x hx => (low_iff hn).mp l x ((Array.perm_iff_toList_perm.mp h).mem_iff.mp hx)
theorem low_rev {n i j : Nat} {p : Array Nat} (hn : 0 < n) (l : LowP n p) : LowP n (kas_rev p i j) := low_perm hn (mirror_perm ..) l
theorem low_bub {n i j : Nat} {p : Array Nat} (hn : 0 < n) (l : LowP n p) : LowP n (bubble p i j) := low_perm hn (bubble_perm ..) l

theorem bel_asc {n : Nat} {p : Array Nat} (l : LowP n p) : ∀ f k, BelowK n (kas_asc p f k)
  | 0, _ => trivial
  | f + 1, k => ⟨l _, l _, fun b => by cases b; exact bel_asc l f (k + 1); exact trivial⟩
theorem bel_desc {n : Nat} (hn : 0 < n) : ∀ f (p : Array Nat) k q, LowP n p → BelowK n (kas_desc f p k q)
  | 0, _, _, _, _ => trivial
  | f + 1, p, k, q, l => by
    refine ⟨l _, l _, fun b => ?_⟩
    cases b with
    | true =>
      by_cases hq : q > 0
      · simp only [if_pos hq, if_true]; exact bel_desc hn f _ _ _ (low_rev hn l)
      · simp only [if_neg hq, if_true]; exact bel_desc hn f _ _ _ l
    | false => exact ⟨l _, l _, fun d => by cases d; exact bel_desc hn f _ _ _ l; exact trivial⟩
theorem all_desc {n : Nat} (hn : 0 < n) : ∀ f (p : Array Nat) k q, LowP n p → AllK (fun r => LowP n r.1) (kas_desc f p k q)
  | 0, _, _, _, l => l
  | f + 1, p, k, q, l => by
    intro b
    cases b with
    | true =>
      by_cases hq : q > 0
      · simp only [if_pos hq, if_true]; exact all_desc hn f _ _ _ (low_rev hn l)
      · simp only [if_neg hq, if_true]; exact all_desc hn f _ _ _ l
    | false => intro d; cases d; exact all_desc hn f _ _ _ l; exact l
theorem bel_tail3 {n k m : Nat} {p : Array Nat} (hn : 0 < n) (l : LowP n p) : BelowK n (kas_tail3 k m p) := BelowK.bind _ (bel_asc (low_rev hn l) _ _) fun _ => trivial
theorem allk_true {α : Type} : ∀ (t : KasT α), AllK (fun _ => True) t
  | .ret _ => trivial
  | .ask _ _ k => fun b => allk_true (k b)
theorem all_tail3 {n k m : Nat} {p : Array Nat} (hn : 0 < n) (l : LowP n p) : AllK (fun r => LowP n r.2) (kas_tail3 k m p) := AllK.bind _ (allk_true _) fun _ _ => low_rev hn l
theorem bel_descPart {n k m : Nat} {p : Array Nat} (hn : 0 < n) (l : LowP n p) : BelowK n (kas_descPart k m p) := by
  refine BelowK.bind' _ (bel_desc hn _ _ _ _ l) (all_desc hn _ _ _ _ l) fun r lr => ?_
  split
  · exact bel_tail3 hn (low_rev hn lr)
  · exact bel_tail3 hn lr
theorem all_descPart {n k m : Nat} {p : Array Nat} (hn : 0 < n) (l : LowP n p) : AllK (fun r => LowP n r.2) (kas_descPart k m p) := by
  refine AllK.bind _ (all_desc hn _ _ _ _ l) fun r lr => ?_
  split
  · exact all_tail3 hn (low_rev hn lr)
  · exact all_tail3 hn lr
theorem bel_count {n m : Nat} {p : Array Nat} (hn : 0 < n) (l : LowP n p) : BelowK n (kas_count m p) := by
  refine BelowK.bind _ (bel_asc l _ _) fun k => ?_
  split
  · trivial
  · split
    · refine ⟨l _, l _, fun b => ?_⟩
      cases b
      · exact bel_descPart hn (low_rev hn l)
      · trivial
    · exact bel_descPart hn l
theorem all_count {n m : Nat} {p : Array Nat} (hn : 0 < n) (l : LowP n p) : AllK (fun r => LowP n r.2) (kas_count m p) := by
  refine AllK.bind _ (allk_true _) fun k _ => ?_
  split
  · exact l
  · split
    · intro b
      cases b
      · exact all_descPart hn (low_rev hn l)
      · exact l
    · exact all_descPart hn l
theorem bel_place {n : Nat} {p : Array Nat} (l : LowP n p) (k : Nat) : ∀ f a b, BelowK n (kas_place p k f a b)
  | 0, _, _ => trivial
  | f + 1, a, b => by
    unfold kas_place
    split
    · trivial
    · refine ⟨l _, l _, fun c => ?_⟩
      cases c
      · exact bel_place l k f _ _
      · exact bel_place l k f _ _
theorem bel_bin {n : Nat} (hn : 0 < n) : ∀ f (p : Array Nat) k, LowP n p → BelowK n (kas_bin f p k)
  | 0, _, _, _ => trivial
  | f + 1, p, k, l => BelowK.bind _ (bel_place l _ _ _ _) fun _ => bel_bin hn f _ _ (low_bub hn l)
theorem bel_sort {n : Nat} (hn : 0 < n) : BelowK n (kas_sort n) := by
  have l : LowP n (List.toArray (List.range n)) := (low_iff hn).mpr fun x hx => by simpa using hx
  refine BelowK.bind' _ (bel_count hn l) (all_count hn l) fun r lr => ?_
  split
  · exact bel_bin hn _ _ _ lr
  · trivial
end Mine
end
section
open PySem PySem.W PyProof.Rows
set_option Elab.async false
set_option linter.unusedVariables false
namespace Mine

/-- a total preorder, told by its strict half -/
structure Pre (lt : Nat → Nat → Bool) : Prop where
  asymm : ∀ i j, lt i j = true → lt j i = false
  trans : ∀ i j k, lt j i = false → lt k j = false → lt k i = false

noncomputable def TT (lt : Nat → Nat → Bool) (i j : Nat) : Prop := lt i j = true ∨ (lt j i = false ∧ i < j)

section
variable {lt : Nat → Nat → Bool} (P : Pre lt)
include P
theorem Pre.irr (i : Nat) : lt i i = false := by
  cases h : lt i i with
  | false => rfl
  | true => have := P.asymm i i h; rw [h] at this; cases this
/-- le then strict -/
theorem Pre.ls {i j k : Nat} (a : lt j i = false) (b : lt j k = true) : lt i k = true := by
  cases h : lt i k with
  | true => rfl
  | false => have := P.trans k i j h a; rw [b] at this; cases this
theorem Pre.sl {i j k : Nat} (a : lt i j = true) (b : lt k j = false) : lt i k = true := by
  cases h : lt i k with
  | true => rfl
  | false => have := P.trans j k i b h; rw [a] at this; cases this
theorem TT.le {i j : Nat} (h : TT lt i j) : lt j i = false := by
  rcases h with h | h
  · exact P.asymm _ _ h
  · exact h.1
theorem TT.trans {i j k : Nat} (a : TT lt i j) (b : TT lt j k) : TT lt i k := by
  have b' := TT.le P b
  have a' := TT.le P a
  rcases a with a | a
  · exact .inl (P.sl a b')
  · rcases b with b | b
    · exact .inl (P.ls a.1 b)
    · exact .inr ⟨P.trans _ _ _ a.1 b.1, Nat.lt_trans a.2 b.2⟩
theorem TT.asymm {i j : Nat} (a : TT lt i j) (b : TT lt j i) : False := by
  have a' := TT.le P a
  have b' := TT.le P b
  rcases a with a | a
  · rw [a] at b'; cases b'
  · rcases b with b | b
    · rw [b] at a'; cases a'
    · exact fkF (fk2 0 1 1 (.n 1) (.n 0) (.a (.v 0) (.n 1)) (.v 1) (.a (.v 1) (.n 1)) (.v 0) rfl [_, _] a.2 b.2)
end

noncomputable def SS (lt : Nat → Nat → Bool) (p : Array Nat) (a : Nat) : Prop := ∀ i j, i < j → j < a → TT lt (p.getD i 0) (p.getD j 0)
noncomputable def RS (lt : Nat → Nat → Bool) (p : Array Nat) (a : Nat) : Prop := ∀ i j, i < j → j < a → TT lt (p.getD j 0) (p.getD i 0)
/-- the rest stands as it stood; what is before it came from before it -/
noncomputable def Ini (n : Nat) (p : Array Nat) (a : Nat) : Prop := (∀ k, a ≤ k → k < n → p.getD k 0 = k) ∧ ∀ k, k < a → p.getD k 0 < a

section
variable {lt : Nat → Nat → Bool} (P : Pre lt) {n : Nat} {p : Array Nat}
include P

theorem SS.snoc {a : Nat} (S : SS lt p a) (h1 : 1 ≤ a) (h : TT lt (p.getD (a - 1) 0) (p.getD a 0)) : SS lt p (a + 1) := by
  intro i j hij hj
  by_cases hja : j < a
  · exact S i j hij hja
  · obtain rfl : j = a := by exact Nat.le_antisymm (fk1 1 1 (.v 0) (.v 1) (.a (.v 0) (.n 1)) (.a (.v 1) (.n 1)) rfl [_, _] hj) (fk1 1 1 (.v 0) (.v 1) (.v 0) (.v 1) rfl [_, _] (Nat.le_of_not_lt hja))
    by_cases hi : i = j - 1
    · rw [hi]; exact h
    · exact TT.trans P (S i (j - 1) (by lia) (by exact fk1 1 1 (.a (.v 0) (.n 1)) (.v 1) (.a (.v 0) (.n 1)) (.v 1) rfl [_, _] (sb3 (fk1 1 1 (.n 1) (.v 0) (.n 1) (.v 0) rfl [_] h1)))) h
omit P in
theorem Ini.snoc {a : Nat} (I : Ini n p a) (ha : a < n) : Ini n p (a + 1) := by
  refine ⟨fun k h1 h2 => I.1 k (by exact fk1 1 1 (.v 0) (.v 1) (.a (.v 0) (.n 1)) (.v 1) rfl [_, _] h1) h2, fun k h1 => ?_⟩
  by_cases h : k < a
  · have := I.2 k h; exact fk1 1 1 (.a (.v 0) (.n 1)) (.a (.v 1) (.n 1)) (.a (.v 0) (.n 1)) (.v 1) rfl [_, _] this
  · obtain rfl : k = a := by exact Nat.le_antisymm (fk1 1 1 (.v 0) (.v 1) (.a (.v 0) (.n 1)) (.a (.v 1) (.n 1)) rfl [_, _] h1) (fk1 1 1 (.v 0) (.v 1) (.v 0) (.v 1) rfl [_, _] (Nat.le_of_not_lt h))
    rw [I.1 k (Nat.le_refl _) ha]; exact fk0 1 (.a (.v 0) (.n 1)) (.a (.v 0) (.n 1)) rfl [_]

theorem asc_ok : ∀ f a, 1 ≤ a → a + f ≤ n → SS lt p a → Ini n p a →
    a ≤ evK lt (kas_asc p f a) ∧ evK lt (kas_asc p f a) ≤ a + f ∧ SS lt p (evK lt (kas_asc p f a)) ∧ Ini n p (evK lt (kas_asc p f a)) ∧
      (evK lt (kas_asc p f a) < a + f → lt (p.getD (evK lt (kas_asc p f a)) 0) (p.getD (evK lt (kas_asc p f a) - 1) 0) = true)
  | 0, a, _, _, S, I => ⟨Nat.le_refl _, Nat.le_refl _, S, I, fun h => absurd h (Nat.lt_irrefl _)⟩
  | f + 1, a, h1, ha, S, I => by
    cases e : lt (p.getD a 0) (p.getD (a - 1) 0) with
    | true =>
      have e' : evK lt (kas_asc p (f + 1) a) = a := by simp only [kas_asc, evK, e, if_true]
      rw [e']
      exact ⟨Nat.le_refl _, by exact fk0 1 (.v 0) (.a (.v 0) (.a (.v 1) (.n 1))) rfl [_, _], S, I, fun _ => e⟩
    | false =>
      have e' : evK lt (kas_asc p (f + 1) a) = evK lt (kas_asc p f (a + 1)) := by simp only [kas_asc, evK, e, Bool.false_eq_true, if_false]
      rw [e']
      have hlt : p.getD (a - 1) 0 < p.getD a 0 := by rw [I.1 a (Nat.le_refl _) (by exact fk1 1 1 (.a (.v 0) (.n 1)) (.v 1) (.a (.v 0) (.a (.v 2) (.n 1))) (.v 1) rfl [_, _, _] ha)]; exact I.2 _ (by exact fk1 1 1 (.a (.v 0) (.n 1)) (.v 1) (.a (.v 0) (.n 1)) (.v 1) rfl [_, _] (sb3 (fk1 1 1 (.n 1) (.v 0) (.n 1) (.v 0) rfl [_] h1)))
      obtain ⟨r1, r2, r3, r4, r5⟩ := asc_ok f (a + 1) (by exact fk1 1 1 (.n 1) (.a (.v 0) (.n 1)) (.n 1) (.v 0) rfl [_] h1) (by exact fk1 1 1 (.a (.a (.v 0) (.n 1)) (.v 1)) (.v 2) (.a (.v 0) (.a (.v 1) (.n 1))) (.v 2) rfl [_, _, _] ha) (SS.snoc P S h1 (.inr ⟨e, hlt⟩)) (I.snoc (by exact fk1 1 1 (.a (.v 0) (.n 1)) (.v 1) (.a (.v 0) (.a (.v 2) (.n 1))) (.v 1) rfl [_, _, _] ha))
      exact ⟨by exact fk1 1 1 (.v 0) (.v 1) (.a (.v 0) (.n 1)) (.v 1) rfl [_, _] r1, by exact fk1 1 1 (.v 0) (.a (.v 1) (.a (.v 2) (.n 1))) (.v 0) (.a (.a (.v 1) (.n 1)) (.v 2)) rfl [_, _, _] r2, r3, r4, fun h => r5 (by exact fk1 1 1 (.a (.v 0) (.n 1)) (.a (.a (.v 1) (.n 1)) (.v 2)) (.a (.v 0) (.n 1)) (.a (.v 1) (.a (.v 2) (.n 1))) rfl [_, _, _] h)⟩

/-- the falling run, the last q + 1 of it alike and in their own order -/
structure DI (lt : Nat → Nat → Bool) (n : Nat) (p : Array Nat) (m q : Nat) : Prop where
  pos : q < m
  le : m ≤ n
  size : p.size = n
  ini : Ini n p m
  up : ∀ i j, i < j → j < m - (q + 1) → TT lt (p.getD j 0) (p.getD i 0)
  mid : ∀ i j, i < m - (q + 1) → m - (q + 1) ≤ j → j < m → lt (p.getD j 0) (p.getD i 0) = true
  eq : ∀ i j, m - (q + 1) ≤ i → i < j → j < m → lt (p.getD j 0) (p.getD i 0) = false ∧ lt (p.getD i 0) (p.getD j 0) = false ∧ p.getD i 0 < p.getD j 0

theorem DI.rs0 {m : Nat} (D : DI lt n p m 0) : RS lt p m := by
  intro i j hij hj
  by_cases h : j < m - 1
  · exact D.up i j hij h
  · exact .inl (D.mid i j (by exact fk3 1 1 1 1 (.a (.v 0) (.n 1)) (.v 1) (.a (.v 0) (.n 1)) (.v 2) (.a (.v 2) (.n 1)) (.v 3) (.v 3) (.a (.v 1) (.n 1)) rfl [_, _, _, _] hij hj (sb2 _ _)) (by exact fk1 1 1 (.v 0) (.v 1) (.v 0) (.v 1) rfl [_, _] (Nat.le_of_not_lt h)) hj)
omit P in
theorem Ini.rev {a i j : Nat} (I : Ini n p a) (hs : p.size = n) (ha : a ≤ n) (hj : j ≤ a) (hij : i ≤ j) : Ini n (kas_rev p i j) a := by
  refine ⟨fun k h1 h2 => ?_, fun k h1 => ?_⟩
  · rw [rev_getD (by exact fk3 1 1 1 1 (.v 0) (.v 1) (.v 2) (.v 1) (.v 3) (.v 2) (.v 0) (.v 3) rfl [_, _, _, _] (Nat.le_of_eq hs.symm) ha hj), if_neg (by lia)]; exact I.1 k h1 h2
  · rw [rev_getD (by exact fk3 1 1 1 1 (.v 0) (.v 1) (.v 2) (.v 1) (.v 3) (.v 2) (.v 0) (.v 3) rfl [_, _, _, _] (Nat.le_of_eq hs.symm) ha hj)]
    split
    · exact I.2 _ (by lia)
    · exact I.2 _ h1
/-- the alike end turned round: all of it falls -/
theorem DI.turn {m q : Nat} (D : DI lt n p m q) : RS lt (kas_rev p (m - (q + 1)) m) m := by
  have hs := D.size
  have hm := D.le
  have hq := D.pos
  intro i j hij hj
  rw [rev_getD (by exact fk2 1 1 1 (.v 0) (.v 1) (.v 2) (.v 1) (.v 0) (.v 2) rfl [_, _, _] (Nat.le_of_eq hs.symm) hm), rev_getD (by exact fk2 1 1 1 (.v 0) (.v 1) (.v 2) (.v 1) (.v 0) (.v 2) rfl [_, _, _] (Nat.le_of_eq hs.symm) hm)]
  by_cases hi : i < m - (q + 1)
  · rw [if_neg (show ¬ (m - (q + 1) ≤ i ∧ i < m) by lia)]
    by_cases hj' : j < m - (q + 1)
    · rw [if_neg (show ¬ (m - (q + 1) ≤ j ∧ j < m) by lia)]; exact D.up i j hij hj'
    · rw [if_pos (show m - (q + 1) ≤ j ∧ j < m by exact ⟨fk1 1 1 (.v 0) (.v 1) (.v 0) (.v 1) rfl [_, _] (Nat.le_of_not_lt hj'), fk1 1 1 (.a (.v 0) (.n 1)) (.v 1) (.a (.v 0) (.n 1)) (.v 1) rfl [_, _] hj⟩)]; exact .inl (D.mid i _ hi (by exact fk3 1 1 1 1 (.v 0) (.v 1) (.a (.v 2) (.n 1)) (.v 3) (.v 4) (.a (.v 1) (.v 2)) (.a (.v 0) (.v 3)) (.a (.v 4) (.n 1)) rfl [_, _, _, _, _] hj (sb2 _ _) (sb2 _ _)) (by exact fk3 1 1 1 1 (.a (.v 0) (.n 1)) (.v 1) (.v 2) (.v 3) (.a (.v 0) (.v 3)) (.v 4) (.a (.v 4) (.n 1)) (.a (.v 2) (.v 1)) rfl [_, _, _, _, _] (Nat.le_of_not_lt hj') (sb3 (fk2 1 1 1 (.v 0) (.v 1) (.a (.v 0) (.n 1)) (.v 2) (.a (.v 3) (.v 2)) (.a (.v 1) (.n 1)) rfl [_, _, _, _] hj (sb2 _ _))) (sb3 (fk2 1 1 1 (.n 1) (.a (.v 0) (.v 1)) (.a (.v 2) (.n 1)) (.v 1) (.v 0) (.v 2) rfl [_, _, _] hj (Nat.le_of_not_lt hj')))))
  · rw [if_pos (show m - (q + 1) ≤ i ∧ i < m by exact ⟨fk1 1 1 (.v 0) (.v 1) (.v 0) (.v 1) rfl [_, _] (Nat.le_of_not_lt hi), fk2 1 1 1 (.a (.v 0) (.n 1)) (.v 1) (.a (.v 0) (.n 1)) (.v 2) (.a (.v 2) (.n 1)) (.v 1) rfl [_, _, _] hij hj⟩), if_pos (show m - (q + 1) ≤ j ∧ j < m by exact ⟨fk2 1 1 1 (.v 0) (.v 1) (.a (.v 2) (.n 1)) (.v 1) (.v 0) (.v 2) rfl [_, _, _] hij (Nat.le_of_not_lt hi), fk1 1 1 (.a (.v 0) (.n 1)) (.v 1) (.a (.v 0) (.n 1)) (.v 1) rfl [_, _] hj⟩)]
    obtain ⟨a, b, c⟩ := D.eq (m - (q + 1) + m - 1 - j) (m - (q + 1) + m - 1 - i) (by exact fk3 1 1 1 1 (.v 0) (.v 1) (.a (.v 2) (.n 1)) (.v 3) (.v 4) (.a (.v 1) (.v 2)) (.a (.v 0) (.v 3)) (.a (.v 4) (.n 1)) rfl [_, _, _, _, _] hj (sb2 _ _) (sb2 _ _)) (by exact fk3 1 1 1 1 (.a (.v 0) (.n 1)) (.v 1) (.a (.v 2) (.n 1)) (.v 3) (.v 4) (.a (.v 1) (.v 2)) (.a (.v 0) (.v 3)) (.v 4) rfl [_, _, _, _, _] hij (sb2 _ _) (sb3 (fk2 1 1 1 (.v 0) (.v 1) (.a (.v 0) (.n 1)) (.v 2) (.a (.v 3) (.v 2)) (.a (.v 1) (.n 1)) rfl [_, _, _, _] hj (sb2 _ _)))) (by exact fk3 1 1 1 1 (.a (.v 0) (.n 1)) (.v 1) (.v 2) (.v 3) (.a (.v 0) (.v 3)) (.v 4) (.a (.v 4) (.n 1)) (.a (.v 2) (.v 1)) rfl [_, _, _, _, _] (Nat.le_of_not_lt hi) (sb3 (fk3 1 1 1 1 (.v 0) (.v 1) (.a (.v 0) (.n 1)) (.v 2) (.a (.v 2) (.n 1)) (.v 3) (.a (.v 4) (.v 3)) (.a (.v 1) (.n 1)) rfl [_, _, _, _, _] hij hj (sb2 _ _))) (sb3 (fk1 1 1 (.n 1) (.a (.v 0) (.v 1)) (.a (.v 2) (.n 1)) (.v 1) rfl [_, _, _] hj)))
    exact .inr ⟨a, c⟩
theorem DI.fresh {m : Nat} (hs : p.size = n) (hm : m < n) (h1 : 1 ≤ m) (I : Ini n p m) (R : RS lt p m) (h : ∀ i, i < m → lt (p.getD m 0) (p.getD i 0) = true) : DI lt n p (m + 1) 0 := by
  refine ⟨by exact fk1 1 1 (.a (.n 0) (.n 1)) (.a (.v 0) (.n 1)) (.n 1) (.v 0) rfl [_] h1, hm, hs, I.snoc hm, fun i j hij hj => R i j hij (by exact fk2 1 1 1 (.a (.v 0) (.n 1)) (.v 1) (.a (.v 0) (.n 1)) (.v 2) (.a (.v 2) (.a (.n 0) (.n 1))) (.a (.v 1) (.n 1)) rfl [_, _, _] hj (sb3 (fk1 1 1 (.a (.n 0) (.n 1)) (.a (.v 0) (.n 1)) (.n 1) (.v 0) rfl [_] h1))), fun i j hi hj hj' => ?_, fun i j h1 h2 h3 => by lia⟩
  obtain rfl : j = m := by exact Nat.le_antisymm (fk1 1 1 (.v 0) (.v 1) (.a (.v 0) (.n 1)) (.a (.v 1) (.n 1)) rfl [_, _] hj') (fk2 1 1 1 (.v 0) (.v 1) (.v 2) (.v 1) (.a (.v 0) (.n 1)) (.a (.v 2) (.a (.n 0) (.n 1))) rfl [_, _, _] hj (sb2 _ _))
  exact h i (by exact fk2 1 1 1 (.a (.v 0) (.n 1)) (.v 1) (.a (.v 0) (.n 1)) (.v 2) (.v 2) (.v 1) rfl [_, _, _] hi hj)
theorem DI.least {m q : Nat} (D : DI lt n p m q) (i : Nat) (hi : i < m) : lt (p.getD i 0) (p.getD (m - 1) 0) = false := by
  have hq := D.pos
  by_cases h : i = m - 1
  · rw [h]; exact P.irr _
  · by_cases h' : i < m - (q + 1)
    · exact P.asymm _ _ (D.mid i (m - 1) h' (by exact fk2 1 1 1 (.v 0) (.v 1) (.v 2) (.a (.v 1) (.n 1)) (.a (.v 0) (.a (.v 3) (.n 1))) (.v 2) rfl [_, _, _, _] (sb2 _ _) (sb3 (fk1 1 1 (.a (.v 0) (.n 1)) (.v 1) (.a (.v 0) (.n 1)) (.v 1) rfl [_, _] hq))) (by exact fk1 1 1 (.a (.v 0) (.n 1)) (.v 1) (.a (.v 0) (.n 1)) (.v 1) rfl [_, _] (sb3 (fk1 1 1 (.n 1) (.v 0) (.a (.v 1) (.n 1)) (.v 0) rfl [_, _] hi))))
    · exact (D.eq i (m - 1) (by exact fk1 1 1 (.v 0) (.v 1) (.v 0) (.v 1) rfl [_, _] (Nat.le_of_not_lt h')) (by lia) (by exact fk1 1 1 (.a (.v 0) (.n 1)) (.v 1) (.a (.v 0) (.n 1)) (.v 1) rfl [_, _] (sb3 (fk1 1 1 (.n 1) (.v 0) (.a (.v 1) (.n 1)) (.v 0) rfl [_, _] hi)))).2.1

theorem desc_ok : ∀ f (p : Array Nat) m q, m + f = n → DI lt n p m q →
    ∃ p' m' q', evK lt (kas_desc f p m q) = (p', m', q') ∧ DI lt n p' m' q' ∧ p'.Perm p
  | 0, p, m, q, _, D => ⟨p, m, q, rfl, D, Array.Perm.refl _⟩
  | f + 1, p, m, q, hm, D => by
    have hs := D.size
    have hq' := D.pos
    cases e : lt (p.getD m 0) (p.getD (m - 1) 0) with
    | true =>
      have low : ∀ i, i < m → lt (p.getD m 0) (p.getD i 0) = true := fun i hi => P.sl e (D.least P i hi)
      by_cases hq : q > 0
      · have e' : evK lt (kas_desc (f + 1) p m q) = evK lt (kas_desc f (kas_rev p (m - (q + 1)) m) (m + 1) 0) := by simp only [kas_desc, evK, e, if_true, if_pos hq]
        rw [e']
        have R := D.turn P
        have D' : DI lt n (kas_rev p (m - (q + 1)) m) (m + 1) 0 := by
          refine DI.fresh P (by rw [kas_rev_size]; exact hs) (by exact fk1 1 1 (.a (.v 0) (.n 1)) (.v 1) (.a (.v 0) (.a (.v 2) (.n 1))) (.v 1) rfl [_, _, _] (Nat.le_of_eq hm)) (by exact fk2 1 1 1 (.n 1) (.v 0) (.a (.v 1) (.n 1)) (.v 0) (.a (.n 0) (.n 1)) (.v 1) rfl [_, _] hq' hq) (D.ini.rev hs D.le (Nat.le_refl _) (by exact fk1 1 1 (.v 0) (.v 1) (.v 0) (.v 1) rfl [_, _] (sb1 _ _))) R fun i hi => ?_
          rw [rev_getD (by exact fk2 1 1 1 (.v 0) (.v 1) (.a (.v 0) (.a (.v 2) (.n 1))) (.v 3) (.v 3) (.v 1) rfl [_, _, _, _] (Nat.le_of_eq hm) (Nat.le_of_eq hs.symm)), if_neg (by lia), rev_getD (by exact fk2 1 1 1 (.v 0) (.v 1) (.a (.v 0) (.a (.v 2) (.n 1))) (.v 3) (.v 3) (.v 1) rfl [_, _, _, _] (Nat.le_of_eq hm) (Nat.le_of_eq hs.symm))]
          split
          · exact low _ (by lia)
          · exact low _ hi
        obtain ⟨p', m', q', h1, h2, h3⟩ := desc_ok f _ (m + 1) 0 (by exact Nat.le_antisymm (fk1 1 1 (.a (.a (.v 0) (.n 1)) (.v 1)) (.v 2) (.a (.v 0) (.a (.v 1) (.n 1))) (.v 2) rfl [_, _, _] (Nat.le_of_eq hm)) (fk1 1 1 (.v 0) (.a (.a (.v 1) (.n 1)) (.v 2)) (.v 0) (.a (.v 1) (.a (.v 2) (.n 1))) rfl [_, _, _] (Nat.le_of_eq hm.symm))) D'
        exact ⟨p', m', q', h1, h2, h3.trans (mirror_perm ..)⟩
      · have e' : evK lt (kas_desc (f + 1) p m q) = evK lt (kas_desc f p (m + 1) 0) := by simp only [kas_desc, evK, e, if_true, if_neg hq]
        rw [e']
        obtain rfl : q = 0 := by exact Nat.le_antisymm (fk1 1 1 (.v 0) (.n 0) (.v 0) (.n 0) rfl [_] (Nat.le_of_not_lt hq)) (fk0 1 (.n 0) (.v 0) rfl [_])
        exact desc_ok f p (m + 1) 0 (by exact Nat.le_antisymm (fk1 1 1 (.a (.a (.v 0) (.n 1)) (.v 1)) (.v 2) (.a (.v 0) (.a (.v 1) (.n 1))) (.v 2) rfl [_, _, _] (Nat.le_of_eq hm)) (fk1 1 1 (.v 0) (.a (.a (.v 1) (.n 1)) (.v 2)) (.v 0) (.a (.v 1) (.a (.v 2) (.n 1))) rfl [_, _, _] (Nat.le_of_eq hm.symm))) (DI.fresh P hs (by exact fk1 1 1 (.a (.v 0) (.n 1)) (.v 1) (.a (.v 0) (.a (.v 2) (.n 1))) (.v 1) rfl [_, _, _] (Nat.le_of_eq hm)) (by exact fk1 1 1 (.n 1) (.v 0) (.a (.n 0) (.n 1)) (.v 0) rfl [_] hq') D.ini (D.rs0 P) low)
    | false =>
      cases d : lt (p.getD (m - 1) 0) (p.getD m 0) with
      | true =>
        have e' : evK lt (kas_desc (f + 1) p m q) = (p, m, q) := by simp only [kas_desc, evK, e, d, Bool.false_eq_true, if_false, if_true]
        exact ⟨p, m, q, e', D, Array.Perm.refl _⟩
      | false =>
        have e' : evK lt (kas_desc (f + 1) p m q) = evK lt (kas_desc f p (m + 1) (q + 1)) := by simp only [kas_desc, evK, e, d, Bool.false_eq_true, if_false]
        rw [e']
        refine desc_ok f p (m + 1) (q + 1) (by exact Nat.le_antisymm (fk1 1 1 (.a (.a (.v 0) (.n 1)) (.v 1)) (.v 2) (.a (.v 0) (.a (.v 1) (.n 1))) (.v 2) rfl [_, _, _] (Nat.le_of_eq hm)) (fk1 1 1 (.v 0) (.a (.a (.v 1) (.n 1)) (.v 2)) (.v 0) (.a (.v 1) (.a (.v 2) (.n 1))) rfl [_, _, _] (Nat.le_of_eq hm.symm))) ⟨by exact fk1 1 1 (.a (.a (.v 0) (.n 1)) (.n 1)) (.a (.v 1) (.n 1)) (.a (.v 0) (.n 1)) (.v 1) rfl [_, _] hq', by exact fk1 1 1 (.a (.v 0) (.n 1)) (.v 1) (.a (.v 0) (.a (.v 2) (.n 1))) (.v 1) rfl [_, _, _] (Nat.le_of_eq hm), hs, D.ini.snoc (by exact fk1 1 1 (.a (.v 0) (.n 1)) (.v 1) (.a (.v 0) (.a (.v 2) (.n 1))) (.v 1) rfl [_, _, _] (Nat.le_of_eq hm)), fun i j hij hj => D.up i j hij (by exact fk3 1 1 1 1 (.a (.v 0) (.n 1)) (.v 1) (.a (.v 0) (.n 1)) (.v 2) (.v 3) (.a (.v 1) (.a (.v 4) (.n 1))) (.a (.v 2) (.a (.a (.v 4) (.n 1)) (.n 1))) (.a (.v 3) (.n 1)) rfl [_, _, _, _, _] hj (sb2 _ _) (sb3 (fk1 1 1 (.a (.a (.v 0) (.n 1)) (.n 1)) (.a (.v 1) (.n 1)) (.a (.v 0) (.n 1)) (.v 1) rfl [_, _] hq'))), fun i j hi hj hj' => ?_, fun i j hi hij hj => ?_⟩
        · by_cases hjm : j < m
          · exact D.mid i j (by exact fk3 1 1 1 1 (.a (.v 0) (.n 1)) (.v 1) (.a (.v 0) (.n 1)) (.v 2) (.v 3) (.a (.v 1) (.a (.v 4) (.n 1))) (.a (.v 2) (.a (.a (.v 4) (.n 1)) (.n 1))) (.a (.v 3) (.n 1)) rfl [_, _, _, _, _] hi (sb2 _ _) (sb3 (fk1 1 1 (.a (.a (.v 0) (.n 1)) (.n 1)) (.a (.v 1) (.n 1)) (.a (.v 0) (.n 1)) (.v 1) rfl [_, _] hq'))) (by exact fk3 1 1 1 1 (.v 0) (.v 1) (.v 2) (.v 1) (.a (.v 3) (.n 1)) (.a (.v 2) (.a (.a (.v 4) (.n 1)) (.n 1))) (.a (.v 0) (.a (.v 4) (.n 1))) (.v 3) rfl [_, _, _, _, _] hj (sb2 _ _) (sb3 (fk1 1 1 (.a (.v 0) (.n 1)) (.v 1) (.a (.v 0) (.n 1)) (.v 1) rfl [_, _] hq'))) hjm
          · obtain rfl : j = m := by exact Nat.le_antisymm (fk1 1 1 (.v 0) (.v 1) (.a (.v 0) (.n 1)) (.a (.v 1) (.n 1)) rfl [_, _] hj') (fk1 1 1 (.v 0) (.v 1) (.v 0) (.v 1) rfl [_, _] (Nat.le_of_not_lt hjm))
            exact P.ls d (D.mid i (j - 1) (by exact fk3 1 1 1 1 (.a (.v 0) (.n 1)) (.v 1) (.a (.v 0) (.n 1)) (.v 2) (.v 3) (.a (.v 1) (.a (.v 4) (.n 1))) (.a (.v 2) (.a (.a (.v 4) (.n 1)) (.n 1))) (.a (.v 3) (.n 1)) rfl [_, _, _, _, _] hi (sb2 _ _) (sb3 (fk1 1 1 (.a (.a (.v 0) (.n 1)) (.n 1)) (.a (.v 1) (.n 1)) (.a (.v 0) (.n 1)) (.v 1) rfl [_, _] hq'))) (by exact fk2 1 1 1 (.v 0) (.v 1) (.v 2) (.a (.v 1) (.n 1)) (.a (.v 0) (.a (.v 3) (.n 1))) (.v 2) rfl [_, _, _, _] (sb2 _ _) (sb3 (fk1 1 1 (.a (.v 0) (.n 1)) (.v 1) (.a (.v 0) (.n 1)) (.v 1) rfl [_, _] hq'))) (by exact fk1 1 1 (.a (.v 0) (.n 1)) (.v 1) (.a (.v 0) (.n 1)) (.v 1) rfl [_, _] (sb3 (fk1 1 1 (.n 1) (.v 0) (.a (.v 1) (.n 1)) (.v 0) rfl [_, _] hq'))))
        · by_cases hjm : j < m
          · exact D.eq i j (by exact fk3 1 1 1 1 (.v 0) (.v 1) (.v 2) (.v 1) (.a (.v 3) (.n 1)) (.a (.v 2) (.a (.a (.v 4) (.n 1)) (.n 1))) (.a (.v 0) (.a (.v 4) (.n 1))) (.v 3) rfl [_, _, _, _, _] hi (sb2 _ _) (sb3 (fk1 1 1 (.a (.v 0) (.n 1)) (.v 1) (.a (.v 0) (.n 1)) (.v 1) rfl [_, _] hq'))) hij hjm
          · obtain rfl : j = m := by exact Nat.le_antisymm (fk1 1 1 (.v 0) (.v 1) (.a (.v 0) (.n 1)) (.a (.v 1) (.n 1)) rfl [_, _] hj) (fk1 1 1 (.v 0) (.v 1) (.v 0) (.v 1) rfl [_, _] (Nat.le_of_not_lt hjm))
            have hlt : p.getD i 0 < p.getD j 0 := by rw [D.ini.1 j (Nat.le_refl _) (by exact fk1 1 1 (.a (.v 0) (.n 1)) (.v 1) (.a (.v 0) (.a (.v 2) (.n 1))) (.v 1) rfl [_, _, _] (Nat.le_of_eq hm))]; exact D.ini.2 i hij
            refine ⟨?_, ?_, hlt⟩
            · by_cases hi' : i = j - 1
              · rw [hi']; exact e
              · exact P.trans _ _ _ (D.eq i (j - 1) (by exact fk3 1 1 1 1 (.v 0) (.v 1) (.v 2) (.v 1) (.a (.v 3) (.n 1)) (.a (.v 2) (.a (.a (.v 4) (.n 1)) (.n 1))) (.a (.v 0) (.a (.v 4) (.n 1))) (.v 3) rfl [_, _, _, _, _] hi (sb2 _ _) (sb3 (fk1 1 1 (.a (.v 0) (.n 1)) (.v 1) (.a (.v 0) (.n 1)) (.v 1) rfl [_, _] hq'))) (by lia) (by exact fk1 1 1 (.a (.v 0) (.n 1)) (.v 1) (.a (.v 0) (.n 1)) (.v 1) rfl [_, _] (sb3 (fk1 1 1 (.n 1) (.v 0) (.a (.v 1) (.n 1)) (.v 0) rfl [_, _] hij)))).1 e
            · exact P.trans _ _ _ d (D.least P i hij)

omit P in
theorem rev_all {m : Nat} (hs : p.size = n) (hm : m ≤ n) (R : RS lt p m) : SS lt (kas_rev p 0 m) m := by
  intro i j hij hj
  rw [rev_getD (by exact fk2 1 1 1 (.v 0) (.v 1) (.v 2) (.v 1) (.v 0) (.v 2) rfl [_, _, _] (Nat.le_of_eq hs.symm) hm), rev_getD (by exact fk2 1 1 1 (.v 0) (.v 1) (.v 2) (.v 1) (.v 0) (.v 2) rfl [_, _, _] (Nat.le_of_eq hs.symm) hm), if_pos (by exact ⟨fk0 1 (.n 0) (.v 0) rfl [_], fk2 1 1 1 (.a (.v 0) (.n 1)) (.v 1) (.a (.v 0) (.n 1)) (.v 2) (.a (.v 2) (.n 1)) (.v 1) rfl [_, _, _] hij hj⟩), if_pos (by exact ⟨fk0 1 (.n 0) (.v 0) rfl [_], fk1 1 1 (.a (.v 0) (.n 1)) (.v 1) (.a (.v 0) (.n 1)) (.v 1) rfl [_, _] hj⟩)]
  exact R _ _ (by exact fk3 1 1 1 1 (.a (.v 0) (.n 1)) (.v 1) (.a (.v 2) (.n 1)) (.v 3) (.v 4) (.a (.v 1) (.v 2)) (.a (.v 0) (.v 3)) (.v 4) rfl [_, _, _, _, _] hij (sb2 _ _) (sb3 (fk2 1 1 1 (.v 0) (.v 1) (.a (.v 0) (.n 1)) (.v 2) (.a (.n 0) (.v 2)) (.a (.v 1) (.n 1)) rfl [_, _, _] hj (sb2 _ _)))) (by exact fk2 1 1 1 (.a (.v 0) (.n 1)) (.v 1) (.v 0) (.v 2) (.a (.v 2) (.n 1)) (.a (.n 0) (.v 1)) rfl [_, _, _] (sb1 _ _) (sb3 (fk1 1 1 (.n 1) (.a (.n 0) (.v 0)) (.a (.v 1) (.n 1)) (.v 0) rfl [_, _] hj)))

noncomputable def OkC (lt : Nat → Nat → Bool) (n : Nat) (p : Array Nat) (r : Nat × Array Nat) : Prop := 1 ≤ r.1 ∧ r.1 ≤ n ∧ SS lt r.2 r.1 ∧ Ini n r.2 r.1 ∧ r.2.Perm p

theorem tail3_ok {m : Nat} (hs : p.size = n) (h1 : 1 ≤ m) (hm : m ≤ n) (I : Ini n p m) (R : RS lt p m) : OkC lt n p (evK lt (kas_tail3 m n p)) := by
  unfold kas_tail3
  rw [evK_bind]
  obtain ⟨a1, a2, a3, a4, _⟩ := asc_ok P (n - m) m h1 (by exact fk1 1 1 (.a (.v 0) (.v 1)) (.v 2) (.a (.v 1) (.v 0)) (.v 2) rfl [_, _, _] (sb3 (fk1 1 1 (.v 0) (.v 1) (.v 0) (.v 1) rfl [_, _] hm))) (rev_all hs hm R) (I.rev hs hm (Nat.le_refl _) (Nat.zero_le _))
  exact ⟨Nat.le_trans h1 a1, by show evK lt (kas_asc (kas_rev p 0 m) (n - m) m) ≤ n; exact fk2 1 1 1 (.v 0) (.v 1) (.v 0) (.a (.v 2) (.v 3)) (.a (.v 3) (.v 2)) (.v 1) rfl [_, _, _, _] a2 (sb3 (fk1 1 1 (.v 0) (.v 1) (.v 0) (.v 1) rfl [_, _] hm)), a3, a4, mirror_perm ..⟩
theorem descPart_ok {m : Nat} (hs : p.size = n) (h1 : 1 ≤ m) (hm : m + 1 ≤ n) (D : DI lt n p (m + 1) 0) : OkC lt n p (evK lt (kas_descPart m n p)) := by
  unfold kas_descPart
  rw [evK_bind]
  obtain ⟨p', m', q', e, D', pp⟩ := desc_ok P (n - (m + 1)) p (m + 1) 0 (by exact Nat.le_antisymm (fk1 1 1 (.a (.a (.v 0) (.n 1)) (.v 1)) (.v 2) (.a (.v 1) (.a (.v 0) (.n 1))) (.v 2) rfl [_, _, _] (sb3 (fk1 1 1 (.a (.v 0) (.n 1)) (.v 1) (.a (.v 0) (.n 1)) (.v 1) rfl [_, _] hm))) (fk1 1 1 (.v 0) (.a (.a (.v 1) (.n 1)) (.v 2)) (.v 0) (.a (.v 2) (.a (.v 1) (.n 1))) rfl [_, _, _] (sb2 _ _))) D
  rw [e]
  dsimp only
  have hq := D'.pos
  by_cases h : q' > 0
  · rw [if_pos h]
    obtain ⟨b1, b2, b3, b4, b5⟩ := tail3_ok P (p := kas_rev p' (m' - (q' + 1)) m') (m := m') (by rw [kas_rev_size]; exact D'.size) (by exact fk1 1 1 (.n 1) (.v 0) (.a (.v 1) (.n 1)) (.v 0) rfl [_, _] hq) D'.le (D'.ini.rev D'.size D'.le (Nat.le_refl _) (by exact fk1 1 1 (.v 0) (.v 1) (.v 0) (.v 1) rfl [_, _] (sb1 _ _))) (D'.turn P)
    exact ⟨b1, b2, b3, b4, b5.trans ((mirror_perm ..).trans pp)⟩
  · rw [if_neg h]
    obtain rfl : q' = 0 := by exact Nat.le_antisymm (fk1 1 1 (.v 0) (.n 0) (.v 0) (.n 0) rfl [_] (Nat.le_of_not_lt h)) (fk0 1 (.n 0) (.v 0) rfl [_])
    obtain ⟨b1, b2, b3, b4, b5⟩ := tail3_ok P D'.size (by exact fk1 1 1 (.n 1) (.v 0) (.a (.n 0) (.n 1)) (.v 0) rfl [_] hq) D'.le D'.ini (D'.rs0 P)
    exact ⟨b1, b2, b3, b4, b5.trans pp⟩

theorem count_ok (h1 : 1 ≤ n) (hs : p.size = n) (hp : ∀ k, k < n → p.getD k 0 = k) : OkC lt n p (evK lt (kas_count n p)) := by
  unfold kas_count
  rw [evK_bind]
  obtain ⟨a1, a2, a3, a4, a5⟩ := asc_ok P (n := n) (p := p) (n - 1) 1 (Nat.le_refl _) (by lia) (fun i j _ _ => by lia) ⟨fun k _ h => hp k h, fun k h => by rw [hp k (by lia)]; exact h⟩
  generalize hN : evK lt (kas_asc p (n - 1) 1) = N at a1 a2 a3 a4 a5
  by_cases e : (N == n) = true
  · rw [if_pos e]
    exact ⟨a1, by show N ≤ n; exact fk2 1 1 1 (.v 0) (.v 1) (.v 0) (.a (.n 1) (.v 2)) (.a (.v 2) (.n 1)) (.v 1) rfl [_, _, _] a2 (sb3 (fk1 1 1 (.n 1) (.v 0) (.n 1) (.v 0) rfl [_] h1)), a3, a4, Array.Perm.refl _⟩
  · rw [if_neg e]
    have hne : N ≠ n := fun q => e (by rw [q]; exact beq_self_eq_true _)
    have hN' : N < n := by lia
    have stop := a5 (by exact fk2 1 1 1 (.a (.v 0) (.n 1)) (.a (.n 1) (.v 1)) (.a (.v 0) (.n 1)) (.v 2) (.v 2) (.a (.v 1) (.n 1)) rfl [_, _, _] hN' (sb2 _ _))
    by_cases h : N > 1
    · rw [if_pos h]
      cases c : lt (p.getD 0 0) (p.getD (N - 1) 0) with
      | true =>
        have e' : evK lt (KasT.ask (p.getD 0 0) (p.getD (N - 1) 0) fun c => if c = true then KasT.ret (N, p) else kas_descPart N n (kas_rev p 0 N)) = (N, p) := by simp only [evK, c, if_true]
        rw [e']
        exact ⟨a1, Nat.le_of_lt hN', a3, a4, Array.Perm.refl _⟩
      | false =>
        have e' : evK lt (KasT.ask (p.getD 0 0) (p.getD (N - 1) 0) fun c => if c = true then KasT.ret (N, p) else kas_descPart N n (kas_rev p 0 N)) = evK lt (kas_descPart N n (kas_rev p 0 N)) := by simp only [evK, c, Bool.false_eq_true, if_false]
        rw [e']
        have le1 : ∀ i, i < N → lt (p.getD i 0) (p.getD 0 0) = false := fun i hi => by
          by_cases z : i = 0
          · rw [z]; exact P.irr _
          · exact TT.le P (a3 0 i (by lia) hi)
        have le2 : ∀ i, i < N → lt (p.getD (N - 1) 0) (p.getD i 0) = false := fun i hi => by
          by_cases z : i = N - 1
          · rw [z]; exact P.irr _
          · exact TT.le P (a3 i (N - 1) (by lia) (by exact fk1 1 1 (.a (.v 0) (.n 1)) (.v 1) (.a (.v 0) (.n 1)) (.v 1) rfl [_, _] (sb3 (fk1 1 1 (.n 1) (.v 0) (.n 1) (.v 0) rfl [_] a1))))
        have alike : ∀ i j, i < N → j < N → lt (p.getD i 0) (p.getD j 0) = false := fun i j hi hj => P.trans _ _ _ (P.trans _ _ _ (le2 j hj) c) (le1 i hi)
        have D : DI lt n (kas_rev p 0 N) (N + 1) 0 := by
          refine DI.fresh P (by rw [kas_rev_size]; exact hs) hN' (by exact fk1 1 1 (.n 1) (.v 0) (.n 1) (.v 0) rfl [_] a1) (a4.rev hs (by exact fk1 1 1 (.v 0) (.v 1) (.a (.v 0) (.n 1)) (.v 1) rfl [_, _] hN') (Nat.le_refl _) (Nat.zero_le _)) (fun i j hij hj => ?_) fun i hi => ?_
          · rw [rev_getD (by exact fk2 1 1 1 (.v 0) (.v 1) (.v 2) (.v 1) (.a (.v 0) (.n 1)) (.v 2) rfl [_, _, _] (Nat.le_of_eq hs.symm) hN'), rev_getD (by exact fk2 1 1 1 (.v 0) (.v 1) (.v 2) (.v 1) (.a (.v 0) (.n 1)) (.v 2) rfl [_, _, _] (Nat.le_of_eq hs.symm) hN'), if_pos (by exact ⟨fk0 1 (.n 0) (.v 0) rfl [_], fk1 1 1 (.a (.v 0) (.n 1)) (.v 1) (.a (.v 0) (.n 1)) (.v 1) rfl [_, _] hj⟩), if_pos (by exact ⟨fk0 1 (.n 0) (.v 0) rfl [_], fk2 1 1 1 (.a (.v 0) (.n 1)) (.v 1) (.a (.v 0) (.n 1)) (.v 2) (.a (.v 2) (.n 1)) (.v 1) rfl [_, _, _] hij hj⟩)]
            refine .inr ⟨alike _ _ (by exact fk2 1 1 1 (.a (.v 0) (.n 1)) (.v 1) (.v 0) (.v 2) (.a (.v 2) (.n 1)) (.a (.n 0) (.v 1)) rfl [_, _, _] (sb1 _ _) (sb3 (fk1 1 1 (.n 1) (.a (.n 0) (.v 0)) (.n 1) (.v 0) rfl [_] a1))) (by exact fk2 1 1 1 (.a (.v 0) (.n 1)) (.v 1) (.v 0) (.v 2) (.a (.v 2) (.n 1)) (.a (.n 0) (.v 1)) rfl [_, _, _] (sb1 _ _) (sb3 (fk1 1 1 (.n 1) (.a (.n 0) (.v 0)) (.n 1) (.v 0) rfl [_] a1))), ?_⟩
            rw [hp _ (by exact fk3 1 1 1 1 (.a (.v 0) (.n 1)) (.v 1) (.a (.v 2) (.n 1)) (.v 1) (.v 0) (.v 3) (.a (.v 3) (.n 1)) (.a (.n 0) (.v 2)) rfl [_, _, _, _] hN' (sb1 _ _) (sb3 (fk1 1 1 (.n 1) (.a (.n 0) (.v 0)) (.n 1) (.v 0) rfl [_] a1))), hp _ (by exact fk3 1 1 1 1 (.a (.v 0) (.n 1)) (.v 1) (.a (.v 2) (.n 1)) (.v 1) (.v 0) (.v 3) (.a (.v 3) (.n 1)) (.a (.n 0) (.v 2)) rfl [_, _, _, _] hN' (sb1 _ _) (sb3 (fk1 1 1 (.n 1) (.a (.n 0) (.v 0)) (.n 1) (.v 0) rfl [_] a1)))]
            exact fk3 1 1 1 1 (.a (.v 0) (.n 1)) (.v 1) (.a (.v 2) (.n 1)) (.v 3) (.v 4) (.a (.v 1) (.v 2)) (.a (.v 0) (.v 3)) (.v 4) rfl [_, _, _, _, _] hij (sb2 _ _) (sb3 (fk2 1 1 1 (.v 0) (.v 1) (.a (.v 0) (.n 1)) (.v 2) (.a (.n 0) (.v 2)) (.a (.v 1) (.n 1)) rfl [_, _, _] hj (sb2 _ _)))
          · rw [rev_getD (by exact fk2 1 1 1 (.v 0) (.v 1) (.v 2) (.v 1) (.a (.v 0) (.n 1)) (.v 2) rfl [_, _, _] (Nat.le_of_eq hs.symm) hN'), if_neg (by lia), rev_getD (by exact fk2 1 1 1 (.v 0) (.v 1) (.v 2) (.v 1) (.a (.v 0) (.n 1)) (.v 2) rfl [_, _, _] (Nat.le_of_eq hs.symm) hN'), if_pos (by exact ⟨fk0 1 (.n 0) (.v 0) rfl [_], fk1 1 1 (.a (.v 0) (.n 1)) (.v 1) (.a (.v 0) (.n 1)) (.v 1) rfl [_, _] hi⟩)]
            exact P.sl stop (alike _ _ (by exact fk2 1 1 1 (.a (.v 0) (.n 1)) (.v 1) (.v 0) (.v 2) (.a (.v 2) (.n 1)) (.a (.n 0) (.v 1)) rfl [_, _, _] (sb1 _ _) (sb3 (fk1 1 1 (.n 1) (.a (.n 0) (.v 0)) (.n 1) (.v 0) rfl [_] a1))) (by exact fk1 1 1 (.a (.v 0) (.n 1)) (.v 1) (.a (.v 0) (.n 1)) (.v 1) rfl [_, _] (sb3 (fk1 1 1 (.n 1) (.v 0) (.n 1) (.v 0) rfl [_] a1))))
        obtain ⟨b1, b2, b3, b4, b5⟩ := descPart_ok P (p := kas_rev p 0 N) (by rw [kas_rev_size]; exact hs) a1 hN' D
        exact ⟨b1, b2, b3, b4, b5.trans (mirror_perm ..)⟩
    · rw [if_neg h]
      obtain rfl : N = 1 := by exact Nat.le_antisymm (fk1 1 1 (.v 0) (.n 1) (.v 0) (.n 1) rfl [_] (Nat.le_of_not_lt h)) (fk1 1 1 (.n 1) (.v 0) (.n 1) (.v 0) rfl [_] a1)
      refine descPart_ok P hs (Nat.le_refl _) hN' (DI.fresh P hs hN' (Nat.le_refl _) a4 (fun i j _ _ => by lia) fun i hi => ?_)
      obtain rfl : i = 0 := by exact Nat.le_antisymm (fk1 1 1 (.v 0) (.n 0) (.a (.v 0) (.n 1)) (.n 1) rfl [_] hi) (fk0 1 (.n 0) (.v 0) rfl [_])
      exact stop

theorem place_ok {k : Nat} (S : SS lt p k) : ∀ f l r, l ≤ r → r ≤ k → r - l ≤ f → (∀ i, i < l → lt (p.getD k 0) (p.getD i 0) = false) → (∀ i, r ≤ i → i < k → lt (p.getD k 0) (p.getD i 0) = true) →
    ∃ x, evK lt (kas_place p k f l r) = x ∧ x ≤ k ∧ (∀ i, i < x → lt (p.getD k 0) (p.getD i 0) = false) ∧ ∀ i, x ≤ i → i < k → lt (p.getD k 0) (p.getD i 0) = true
  | 0, l, r, h1, h2, h3, hl, hr => ⟨l, rfl, by exact fk2 1 1 1 (.v 0) (.v 1) (.v 0) (.v 2) (.v 2) (.v 1) rfl [_, _, _] h1 h2, hl, fun i hi hk => hr i (by exact fk3 1 1 1 1 (.v 0) (.v 1) (.v 2) (.n 0) (.v 3) (.v 1) (.v 0) (.a (.v 2) (.v 3)) rfl [_, _, _, _] h3 hi (sb2 _ _)) hk⟩
  | f + 1, l, r, h1, h2, h3, hl, hr => by
    by_cases h : l ≥ r
    · refine ⟨l, by simp only [kas_place, if_pos h, evK], by exact fk2 1 1 1 (.v 0) (.v 1) (.v 0) (.v 2) (.v 2) (.v 1) rfl [_, _, _] h1 h2, hl, fun i hi hk => hr i (by exact fk2 1 1 1 (.v 0) (.v 1) (.v 0) (.v 2) (.v 2) (.v 1) rfl [_, _, _] h hi) hk⟩
    · cases c : lt (p.getD k 0) (p.getD ((l + r) / 2) 0) with
      | true =>
        have e' : evK lt (kas_place p k (f + 1) l r) = evK lt (kas_place p k f l ((l + r) / 2)) := by rw [kas_place, if_neg h]; simp only [evK, c, if_true]
        rw [e']
        refine place_ok S f l ((l + r) / 2) (by exact fk2 2 1 1 (.v 0) (.v 1) (.v 0) (.v 2) (.a (.v 0) (.v 2)) (.a (.m 2 (.v 1)) (.n 1)) rfl [_, _, _] h1 (dh2 _)) (by exact fk3 2 1 2 1 (.v 0) (.v 1) (.v 2) (.v 3) (.v 3) (.v 1) (.m 2 (.v 0)) (.a (.v 2) (.v 3)) rfl [_, _, _, _] h1 h2 (dh1 _)) (by lia) hl fun i hi hk => ?_
        by_cases z : i = (l + r) / 2
        · rw [z]; exact c
        · exact P.sl c (TT.le P (S _ _ (by lia) hk))
      | false =>
        have e' : evK lt (kas_place p k (f + 1) l r) = evK lt (kas_place p k f ((l + r) / 2 + 1) r) := by rw [kas_place, if_neg h]; simp only [evK, c, Bool.false_eq_true, if_false]
        rw [e']
        refine place_ok S f ((l + r) / 2 + 1) r (by exact fk2 2 1 1 (.a (.v 0) (.n 1)) (.v 1) (.a (.v 2) (.n 1)) (.v 1) (.m 2 (.v 0)) (.a (.v 2) (.v 1)) rfl [_, _, _] (Nat.lt_of_not_le h) (dh1 _)) h2 (by lia) (fun i hi => ?_) hr
        by_cases z : i = (l + r) / 2
        · rw [z]; exact c
        · exact P.trans _ _ _ (TT.le P (S i ((l + r) / 2) (by lia) (by exact fk3 2 2 1 1 (.a (.v 0) (.n 1)) (.v 1) (.v 2) (.v 1) (.a (.v 3) (.n 1)) (.v 2) (.m 2 (.v 0)) (.a (.v 3) (.v 2)) rfl [_, _, _, _] h2 (Nat.lt_of_not_le h) (dh1 _)))) c

theorem bin_ok : ∀ f (p : Array Nat) k, k + f = n → p.size = n → SS lt p k → Ini n p k → SS lt (evK lt (kas_bin f p k)) n ∧ (evK lt (kas_bin f p k)).Perm p
  | 0, p, k, hk, hs, S, I => by
    obtain rfl : k = n := by exact Nat.le_antisymm (fk1 1 1 (.v 0) (.v 1) (.a (.v 0) (.n 0)) (.v 1) rfl [_, _] (Nat.le_of_eq hk)) (fk1 1 1 (.v 0) (.v 1) (.v 0) (.a (.v 1) (.n 0)) rfl [_, _] (Nat.le_of_eq hk.symm))
    exact ⟨S, Array.Perm.refl _⟩
  | f + 1, p, k, hk, hs, S, I => by
    have e' : evK lt (kas_bin (f + 1) p k) = evK lt (kas_bin f (bubble p k (k - evK lt (kas_place p k k 0 k))) (k + 1)) := by rw [kas_bin, evK_bind]
    rw [e']
    obtain ⟨x, ex, x1, x2, x3⟩ := place_ok P S k 0 k (Nat.zero_le _) (Nat.le_refl _) (by exact fk1 1 1 (.v 0) (.v 1) (.v 0) (.v 1) rfl [_, _] (sb1 _ _)) (fun i h => by lia) (fun i h1 h2 => by lia)
    rw [ex]
    have kk : p.getD k 0 = k := I.1 k (Nat.le_refl _) (by exact fk1 1 1 (.a (.v 0) (.n 1)) (.v 1) (.a (.v 0) (.a (.v 2) (.n 1))) (.v 1) rfl [_, _, _] (Nat.le_of_eq hk))
    have B : ∀ j, (bubble p k (k - x)).getD j 0 = if j = x then p.getD k 0 else if x < j ∧ j ≤ k then p.getD (j - 1) 0 else p.getD j 0 := fun j => by
      have z : k - (k - x) = x := by exact Nat.le_antisymm (fk2 1 1 1 (.v 0) (.v 1) (.v 2) (.a (.v 3) (.v 1)) (.a (.v 0) (.v 3)) (.v 2) rfl [_, _, _, _] (sb2 _ _) (sb3 (fk1 1 1 (.v 0) (.v 1) (.v 0) (.v 1) rfl [_, _] (sb1 _ _)))) (fk2 1 1 1 (.v 0) (.v 1) (.v 2) (.a (.v 1) (.v 3)) (.a (.v 3) (.v 0)) (.v 2) rfl [_, _, _, _] (sb2 _ _) (sb3 (fk1 1 1 (.v 0) (.v 1) (.v 0) (.v 1) rfl [_, _] x1)))
      have := bub_getD (p := p) (k := k) (d := k - x) (by exact fk2 1 1 1 (.a (.v 0) (.n 1)) (.v 1) (.a (.v 0) (.a (.v 2) (.n 1))) (.v 3) (.v 3) (.v 1) rfl [_, _, _, _] (Nat.le_of_eq hk) (Nat.le_of_eq hs.symm)) (by exact fk1 1 1 (.v 0) (.v 1) (.v 0) (.v 1) rfl [_, _] (sb1 _ _)) j
      rw [z] at this
      exact this
    have S' : SS lt (bubble p k (k - x)) (k + 1) := by
      intro i j hij hj
      rw [B, B]
      by_cases hi : i = x
      · rw [if_pos hi, if_neg (by lia), if_pos (by exact ⟨fk2 1 1 1 (.a (.v 0) (.n 1)) (.v 1) (.a (.v 2) (.n 1)) (.v 1) (.v 0) (.v 2) rfl [_, _, _] hij (Nat.le_of_eq hi.symm), fk1 1 1 (.v 0) (.v 1) (.a (.v 0) (.n 1)) (.a (.v 1) (.n 1)) rfl [_, _] hj⟩)]
        exact .inl (x3 _ (by exact fk3 1 1 1 1 (.v 0) (.v 1) (.a (.v 2) (.n 1)) (.v 3) (.v 0) (.v 2) (.v 3) (.a (.v 1) (.n 1)) rfl [_, _, _, _] hij (Nat.le_of_eq hi.symm) (sb2 _ _)) (by exact fk2 1 1 1 (.a (.v 0) (.n 1)) (.v 1) (.a (.v 2) (.n 1)) (.a (.v 1) (.n 1)) (.a (.v 0) (.n 1)) (.v 2) rfl [_, _, _] hj (sb3 (fk1 1 1 (.n 1) (.v 0) (.a (.v 1) (.n 1)) (.v 0) rfl [_, _] hij))))
      · rw [if_neg hi]
        by_cases hjx : j = x
        · rw [if_pos hjx, if_neg (by lia)]
          refine .inr ⟨x2 i (by exact fk2 1 1 1 (.a (.v 0) (.n 1)) (.v 1) (.a (.v 0) (.n 1)) (.v 2) (.v 2) (.v 1) rfl [_, _, _] hij (Nat.le_of_eq hjx)), ?_⟩
          rw [kk]; exact I.2 i (by exact fk2 1 1 1 (.a (.v 0) (.n 1)) (.v 1) (.a (.v 0) (.n 1)) (.v 2) (.a (.v 2) (.n 1)) (.a (.v 1) (.n 1)) rfl [_, _, _] hij hj)
        · rw [if_neg hjx]
          by_cases hi' : x < i ∧ i ≤ k
          · rw [if_pos hi', if_pos (by exact ⟨fk2 1 1 1 (.a (.v 0) (.n 1)) (.v 1) (.a (.v 2) (.n 1)) (.v 1) (.a (.v 0) (.n 1)) (.v 2) rfl [_, _, _] hij hi'.1, fk1 1 1 (.v 0) (.v 1) (.a (.v 0) (.n 1)) (.a (.v 1) (.n 1)) rfl [_, _] hj⟩)]; exact S _ _ (by exact fk3 1 1 1 1 (.a (.v 0) (.n 1)) (.v 1) (.a (.v 2) (.n 1)) (.v 3) (.v 3) (.a (.v 1) (.n 1)) (.a (.v 0) (.n 1)) (.v 2) rfl [_, _, _, _] hij (sb2 _ _) (sb3 (fk1 1 1 (.n 1) (.v 0) (.a (.v 1) (.n 1)) (.v 0) rfl [_, _] hi'.1))) (by exact fk2 1 1 1 (.a (.v 0) (.n 1)) (.v 1) (.a (.v 2) (.n 1)) (.a (.v 1) (.n 1)) (.a (.v 0) (.n 1)) (.v 2) rfl [_, _, _] hj (sb3 (fk1 1 1 (.n 1) (.v 0) (.a (.v 1) (.n 1)) (.v 0) rfl [_, _] hij)))
          · rw [if_neg hi']
            split
            · exact S _ _ (by lia) (by exact fk2 1 1 1 (.a (.v 0) (.n 1)) (.v 1) (.a (.v 2) (.n 1)) (.a (.v 1) (.n 1)) (.a (.v 0) (.n 1)) (.v 2) rfl [_, _, _] hj (sb3 (fk1 1 1 (.n 1) (.v 0) (.a (.v 1) (.n 1)) (.v 0) rfl [_, _] hij)))
            · exact S _ _ hij (by lia)
    have I' : Ini n (bubble p k (k - x)) (k + 1) := by
      refine ⟨fun j h1 h2 => ?_, fun j h1 => ?_⟩
      · rw [B, if_neg (by lia), if_neg (by lia)]; exact I.1 j (by exact fk1 1 1 (.v 0) (.v 1) (.a (.v 0) (.n 1)) (.v 1) rfl [_, _] h1) h2
      · rw [B]
        split
        · exact fk1 1 1 (.a (.v 0) (.n 1)) (.a (.v 1) (.n 1)) (.v 0) (.v 1) rfl [_, _] (Nat.le_of_eq kk)
        · split
          · have := I.2 (j - 1) (by lia); exact fk1 1 1 (.a (.v 0) (.n 1)) (.a (.v 1) (.n 1)) (.a (.v 0) (.n 1)) (.v 1) rfl [_, _] this
          · by_cases z : j < k
            · have := I.2 j z; exact fk1 1 1 (.a (.v 0) (.n 1)) (.a (.v 1) (.n 1)) (.a (.v 0) (.n 1)) (.v 1) rfl [_, _] this
            · obtain rfl : j = k := by exact Nat.le_antisymm (fk1 1 1 (.v 0) (.v 1) (.a (.v 0) (.n 1)) (.a (.v 1) (.n 1)) rfl [_, _] h1) (fk1 1 1 (.v 0) (.v 1) (.v 0) (.v 1) rfl [_, _] (Nat.le_of_not_lt z))
              exact fk1 1 1 (.a (.v 0) (.n 1)) (.a (.v 1) (.n 1)) (.v 0) (.v 1) rfl [_, _] (Nat.le_of_eq kk)
    obtain ⟨r1, r2⟩ := bin_ok f _ (k + 1) (by exact Nat.le_antisymm (fk1 1 1 (.a (.a (.v 0) (.n 1)) (.v 1)) (.v 2) (.a (.v 0) (.a (.v 1) (.n 1))) (.v 2) rfl [_, _, _] (Nat.le_of_eq hk)) (fk1 1 1 (.v 0) (.a (.a (.v 1) (.n 1)) (.v 2)) (.v 0) (.a (.v 1) (.a (.v 2) (.n 1))) rfl [_, _, _] (Nat.le_of_eq hk.symm))) (by rw [bubble_size]; exact hs) S' I'
    exact ⟨r1, r2.trans (bubble_perm ..)⟩
end

/-- the run's sort puts every order in its one stable line -/
theorem sort_ok {lt : Nat → Nat → Bool} (P : Pre lt) {n : Nat} (h1 : 1 ≤ n) : (evK lt (kas_sort n)).toList.Perm (List.range n) ∧ (evK lt (kas_sort n)).toList.Pairwise (TT lt) := by
  unfold kas_sort
  rw [evK_bind]
  obtain ⟨b1, b2, b3, b4, b5⟩ := count_ok P (n := n) (p := (List.range n).toArray) h1 (by simp) (fun k hk => by simp [hk])
  generalize evK lt (kas_count n (List.range n).toArray) = r at b1 b2 b3 b4 b5
  have fin : ∀ q : Array Nat, SS lt q n → q.Perm (List.range n).toArray → q.toList.Perm (List.range n) ∧ q.toList.Pairwise (TT lt) := by
    intro q S pp
    have hsz : q.size = n := by rw [pp.size_eq]; simp
    refine ⟨by simpa using Array.perm_iff_toList_perm.mp pp, ?_⟩
    rw [List.pairwise_iff_getElem]
    intro i j hi hj hij
    have := S i j hij (by rw [← hsz]; simpa using hj)
    rw [getD_opt, getD_opt, ← Array.getElem?_toList, ← Array.getElem?_toList, List.getElem?_eq_getElem hi, List.getElem?_eq_getElem hj] at this
    exact this
  have hsz : r.2.size = n := by rw [b5.size_eq]; simp
  by_cases h : r.1 < n
  · rw [if_pos h]
    have hm : max r.1 1 = r.1 := by lia
    rw [hm]
    obtain ⟨c1, c2⟩ := bin_ok P (n - r.1) r.2 r.1 (by exact Nat.le_antisymm (fk1 1 1 (.a (.v 0) (.v 1)) (.v 2) (.a (.v 1) (.v 0)) (.v 2) rfl [_, _, _] (sb3 (fk1 1 1 (.v 0) (.v 1) (.v 0) (.v 1) rfl [_, _] b2))) (fk1 1 1 (.v 0) (.a (.v 1) (.v 2)) (.v 0) (.a (.v 2) (.v 1)) rfl [_, _, _] (sb2 _ _))) hsz b3 b4
    exact fin _ c1 (c2.trans b5)
  · rw [if_neg h]
    have : r.1 = n := by exact Nat.le_antisymm (fk1 1 1 (.v 0) (.v 1) (.v 0) (.v 1) rfl [_, _] b2) (fk1 1 1 (.v 0) (.v 1) (.v 0) (.v 1) rfl [_, _] (Nat.le_of_not_lt h))
    rw [this] at b3
    exact fin _ b3 b5
end Mine
end
section
open PySem PySem.W PySem.Calls PyProof.Rows
set_option Elab.async false
set_option maxRecDepth 100000
set_option maxHeartbeats 4000000
set_option linter.unusedVariables false
namespace Mine

noncomputable def ltb (b : Bool) (lt : Nat → Nat → Bool) (i j : Nat) : Bool := if b then lt j i else lt i j
theorem Pre.flip {lt : Nat → Nat → Bool} (P : Pre lt) (b : Bool) : Pre (ltb b lt) := by
  cases b with
  | false => exact P
  | true => exact ⟨fun i j h => P.asymm j i h, fun i j k h1 h2 => P.trans k j i h2 h1⟩

/-- from s the state of one run: other heap, other tokens -/
noncomputable def Of (s s' : Shared) : Prop := ∃ h tk, s' = { s with heap := h, toks := tk }
theorem Of.refl (s : Shared) : Of s s := ⟨s.heap, s.toks, rfl⟩
theorem Of.trans {a b c : Shared} (x : Of a b) (y : Of b c) : Of a c := by
  obtain ⟨h, t, rfl⟩ := x
  obtain ⟨h', t', rfl⟩ := y
  exact ⟨h', t', rfl⟩
theorem Stp.of {a b : Shared} (x : Stp a b) : Of a b := by obtain ⟨h, t, rfl, _⟩ := x; exact ⟨h, t, rfl⟩
/-- the table, and that it is empty where Z is not granted -/
noncomputable def TabZ (Z : Prop) (h : Heap) : Prop := Tab h ∧ (Z ∨ h.get? 100 = some (tabObj #[]))
noncomputable def StpZ (Z : Prop) (s s' : Shared) : Prop := Stp s s' ∧ (Z ∨ s'.heap.get? 100 = some (tabObj #[]))
theorem StpZ.of {Z : Prop} {a b : Shared} (x : StpZ Z a b) : Of a b := x.1.of
theorem StpZ.ext {Z : Prop} {a b : Shared} (x : StpZ Z a b) : Ext1 a.heap b.heap := x.1.ext
theorem StpZ.tab {Z : Prop} {a b : Shared} (x : StpZ Z a b) : TabZ Z b.heap := ⟨x.1.tab, x.2⟩
theorem StpZ.trans {Z : Prop} {a b c : Shared} (x : StpZ Z a b) (y : StpZ Z b c) : StpZ Z a c := ⟨x.1.trans y.1, y.2⟩
theorem StpZ.refl {Z : Prop} {s : Shared} (t : TabZ Z s.heap) : StpZ Z s s := ⟨⟨s.heap, s.toks, rfl, Ext1.refl _, t.1⟩, t.2⟩
theorem tabZ_eq {Z : Prop} {g g' : Heap} (t : Z ∨ g.get? 100 = some (tabObj #[])) (e : g'.get? 100 = g.get? 100) : Z ∨ g'.get? 100 = some (tabObj #[]) := t.imp id fun q => e.trans q

section
variable {Z : Prop} {w : World} {A : Around} {s₀ : Shared} {f : Value} {b : Bool} {vs : List Value} {lt : Nat → Nat → Bool} {KR : Nat → Value → Heap → Prop}

/-- what a sort by a key asks of its key and of its comparison -/
structure SortAsk (Z : Prop) (w : World) (A : Around) (s₀ : Shared) (f : Value) (vs : List Value) (lt : Nat → Nat → Bool) (KR : Nat → Value → Heap → Prop) : Prop where
  mono : ∀ i v h h', KR i v h → (∀ b o C, b ≠ 100 → o.cls = .ref C → h.get? b = some o → h'.get? b = some o) → KR i v h'
  key : ∀ i v s', vs[i]? = some v → Of s₀ s' → Ext1 s₀.heap s'.heap → TabZ Z s'.heap → wpAny (model PR w) A (call f [v]) (fun k s'' => StpZ Z s' s'' ∧ KR i k s''.heap) (fun _ _ => False) s'
  kind : ∀ (ks : List Value) s', ks.length = vs.length → (∀ i k, ks[i]? = some k → KR i k s'.heap) → ∀ (Q : SortKind → Shared → Prop) (E : Value → Shared → Prop), Q oneType' s' → wpAny (model PR w) A (keyKind' ks.toArray) Q E s'
  ask : ∀ i j ki kj s', i < vs.length → j < vs.length → KR i ki s'.heap → KR j kj s'.heap → Of s₀ s' → Ext1 s₀.heap s'.heap → TabZ Z s'.heap → wpAny (model PR w) A (keyLt' oneType' ki kj) (fun c s'' => c = lt i j ∧ StpZ Z s' s'') (fun _ _ => False) s'

/-- the places in the order that a sort gives -/
noncomputable def Order (b : Bool) (lt : Nat → Nat → Bool) (n : Nat) (q : List Nat) : Prop := q.Perm (List.range n) ∧ q.Pairwise (TT (ltb b lt))

theorem revMap_order {lt : Nat → Nat → Bool} {n : Nat} {p : List Nat} (hp : p.Perm (List.range n)) (ho : p.Pairwise (TT (fun i j => lt (n - 1 - i) (n - 1 - j)))) : Order true lt n ((p.map fun i => n - 1 - i).reverse) := by
  have hm : ∀ x ∈ p, x < n := fun x hx => by simpa using hp.mem_iff.mp hx
  constructor
  · refine (List.reverse_perm _).trans ((hp.map _).trans ?_)
    have e : (List.range n).map (fun i => n - 1 - i) = (List.range n).reverse := by
      refine List.ext_getElem (by simp) fun i h1 h2 => ?_
      simp
    rw [e]
    exact List.reverse_perm _
  · rw [List.pairwise_reverse, List.pairwise_map]
    refine (List.pairwise_iff_forall_sublist.mpr ?_)
    intro x y hxy
    have hx := hm x (hxy.subset (by simp))
    have hy := hm y (hxy.subset (by simp))
    have t := (List.pairwise_iff_forall_sublist.mp ho) hxy
    rcases t with t | t
    · exact .inl t
    · exact .inr ⟨t.1, by exact fk3 1 1 1 1 (.a (.v 0) (.n 1)) (.v 1) (.a (.v 2) (.n 1)) (.v 3) (.v 4) (.a (.v 1) (.v 2)) (.a (.v 0) (.v 3)) (.v 4) rfl [_, _, _, _, _] t.2 (sb2 _ _) (sb3 (fk2 1 1 1 (.v 0) (.v 1) (.a (.v 0) (.n 1)) (.v 2) (.v 2) (.a (.v 1) (.n 1)) rfl [_, _, _] hy (sb2 _ _)))⟩

theorem sort_tree {a : Addr} {n : Nat} {P : PySem.Fin → Shared → Prop} {E : Value → Shared → Prop} {s : Shared} (S : SortAsk Z w A s₀ f vs lt KR) (PP : Pre lt) (h2 : 2 ≤ vs.length) (h64 : vs.length < 64)
    (o₀ : Of s₀ s) (x₀ : Ext1 s₀.heap s.heap) (t₀ : TabZ Z s.heap) (ha : s.heap.get? a = some (seqObj "list" vs.toArray n)) (ha0 : s₀.heap.get? a = none) (h100 : s₀.heap.objs.size > 100)
    (h : ∀ s' q c, Of s₀ s' → Ext1 s₀.heap s'.heap → TabZ Z s'.heap → Order b lt vs.length q → s'.heap.get? a = some (seqObj "list" (q.map fun i => vs.getD i .none).toArray c) → P (.done (.ret .none)) s') :
    wpAny (model PR w) A (ksk_tree a f b) P E s := by
  have halt : a < s.heap.objs.size := Heap.lt_size ha
  have a100 : a ≠ 100 := fun q => by
    obtain ⟨ps, e, _⟩ := t₀.1
    rw [q, e] at ha; cases ha
  have s1 := Heap.SameBut.update s.heap a (Obj.mapSeq fun _ => (#[] : Array Value))
  obtain ⟨e1, ho1⟩ : ∃ e1, (s.heap.update a (Obj.mapSeq fun _ => (#[] : Array Value))).get? a = some (seqObj "list" #[] e1) := ⟨_, get?_update_seq ha fun _ => #[]⟩
  generalize hH1 : s.heap.update a (Obj.mapSeq fun _ => (#[] : Array Value)) = H1 at s1 ho1
  have hsz1 : H1.objs.size = s.heap.objs.size := by rw [← hH1, Heap.size_update]
  have ne : ∀ b o, s₀.heap.get? b = some o → b ≠ a := fun b o e q => by rw [q, ha0] at e; cases e
  have x1 : Ext1 s₀.heap H1 := fun b o hb e => (s1.2 b (ne b o e)).trans (x₀ b o hb e)
  have tabUp : ∀ {g g' : Heap}, TabZ Z g → g'.get? 100 = g.get? 100 → Ext1 (gh g) g' → TabZ Z g' := by
    intro g g' t e x
    refine ⟨?_, tabZ_eq t.2 e⟩
    obtain ⟨ps, h1, V⟩ := t.1
    refine ⟨ps, by rw [e]; exact h1, ?_⟩
    rcases V with V | ⟨c', V, c, oc, vs', tq, e', ho, r⟩
    · exact .inl V
    · exact .inr ⟨c', V, c, oc, vs', tq, e', gh_ne (x _ _ (gh_neq ho) ho) (gh_neq ho), r⟩
  unfold ksk_tree
  refine wpAny_bind (listItems_at ha rfl ?_)
  refine wpAny_bind (listUpdate_at ha rfl ?_ (by rw [List.size_toArray, sizeLine_eq]; exact fk1 1 1 (.v 0) (.n 16777216) (.a (.v 0) (.n 1)) (.n 64) rfl [_] h64) (Nat.zero_le _))
  rw [hH1]
  refine wpAny_bind (seqEpoch_at ho1 rfl ?_)
  refine wpAny_bind (wpAny_newTuple ?_ (by show vs.length ≤ _; rw [sizeLine_eq]; exact fk1 1 1 (.v 0) (.n 16777216) (.a (.v 0) (.n 1)) (.n 64) rfl [_] h64))
  refine wpAny_bind (wpAny_newList ?_ (Nat.zero_le _))
  refine wpAny_holding ?_
  show wpAny _ _ (ksk_rest a f b vs.toArray e1 (.ref (H1.push (seqObj "tuple" vs.toArray 0)).objs.size)) _ _ { s with heap := (H1.push (seqObj "tuple" vs.toArray 0)).push (seqObj "list" #[] 0) }
  generalize hkS : (H1.push (seqObj "tuple" vs.toArray 0)).objs.size = kS
  have hkS' : kS = s.heap.objs.size + 1 := by rw [← hkS, size_push', hsz1]
  generalize hH3 : (H1.push (seqObj "tuple" vs.toArray 0)).push (seqObj "list" #[] 0) = H3
  have up3 : ∀ b o, H1.get? b = some o → H3.get? b = some o := fun b o e => by rw [← hH3]; exact Heap.get?_push_of_some _ (Heap.get?_push_of_some _ e)
  have hk3 : H3.get? kS = some (seqObj "list" #[] 0) := by rw [← hH3, ← hkS]; exact Heap.get?_push_size _ rfl
  have ha3 : H3.get? a = some (seqObj "list" #[] e1) := up3 _ _ ho1
  have hka : kS ≠ a := Nat.ne_of_gt (by rw [hkS']; exact Nat.lt_succ_of_lt halt)
  have l100 : 100 < s.heap.objs.size := by obtain ⟨ps, e, _⟩ := t₀.1; exact Heap.lt_size e
  have k100 : kS ≠ 100 := Nat.ne_of_gt (by rw [hkS']; exact Nat.lt_succ_of_lt l100)
  have k0 : s₀.heap.get? kS = none := by
    cases q : s₀.heap.get? kS with
    | none => rfl
    | some o =>
      have q2 := Heap.lt_size (x₀ _ _ k100 q)
      rw [hkS'] at q2
      exact absurd (Nat.lt_of_succ_lt q2) (Nat.lt_irrefl _)
  have t3 : TabZ Z H3 := by
    refine ⟨?_, t₀.2.imp id fun e => up3 _ _ ((s1.2 100 (Ne.symm a100)).trans e)⟩
    obtain ⟨ps, e, V⟩ := t₀.1
    refine ⟨ps, up3 _ _ ((s1.2 100 (Ne.symm a100)).trans e), ?_⟩
    rcases V with V | ⟨c', V, c, oc, vs', tq, e', ho, dd, r⟩
    · exact .inl V
    · refine .inr ⟨c', V, c, oc, vs', tq, e', gh_ne (up3 _ _ ((s1.2 c fun q => ?_).trans (of_gh ho))) (gh_neq ho), dd, r⟩
      have ho' := of_gh ho
      rw [q, ha] at ho'; cases ho'; cases dd
  -- the keys
  unfold ksk_rest
  refine wpAny_bind (wpAny_rule ?_)
  rw [List.forIn_toArray]
  refine wpAny_bind (ksk_fold (fun i s' => ∃ (kA : List Value) (e : Nat), Of s₀ s' ∧ Ext1 s₀.heap s'.heap ∧ TabZ Z s'.heap ∧ s'.heap.get? kS = some (seqObj "list" kA.toArray e) ∧ s'.heap.get? a = some (seqObj "list" #[] e1) ∧ kA.length = i ∧ ∀ j k, kA[j]? = some k → KR j k s'.heap) vs 0 _
    ⟨[], 0, o₀.trans ⟨H3, s.toks, rfl⟩, fun b o hb e => up3 _ _ (x1 b o hb e), t3, hk3, ha3, rfl, fun j k e => by simp at e⟩ ?step ?done)
  case step =>
    rintro j x s' hx ⟨kA, e, o', x', t', hk', ha', hl, hKR⟩
    have hj : j < vs.length := (List.getElem?_eq_some_iff.mp hx).1
    refine wpAny_bind (wpAny_attempt (wpAny_mono (S.key j x s' hx o' x' t') (fun k s'' hs => ?_) fun _ _ hF => hF.elim))
    obtain ⟨st, hr⟩ := hs
    dsimp only
    have hk2 := st.ext _ _ k100 hk'
    have ha2 := st.ext _ _ a100 ha'
    have u := Heap.SameBut.update s''.heap kS (Obj.mapSeq (·.push k))
    obtain ⟨c2, hc2⟩ : ∃ c2, (s''.heap.update kS (Obj.mapSeq (·.push k))).get? kS = some (seqObj "list" (kA ++ [k]).toArray c2) := ⟨_, by
      have := get?_update_seq hk2 (·.push k)
      rw [List.push_toArray] at this
      exact this⟩
    have kne : ∀ b o C, s''.heap.get? b = some o → o.cls = .ref C → b ≠ kS := fun b o C e hc q => by rw [q, hk2] at e; cases e; cases hc
    refine wpAny_bind (listUpdate_at hk2 rfl ?_ (by rw [List.size_toArray, sizeLine_eq]; exact fk3 1 1 1 1 (.v 0) (.n 16777216) (.a (.v 1) (.n 1)) (.n 64) (.v 0) (.a (.n 0) (.v 2)) (.a (.v 2) (.n 1)) (.v 1) rfl [_, _, _] h64 (Nat.le_of_eq hl) hj) (by rw [Array.size_push, List.size_toArray, sizeLine_eq]; exact fk3 1 1 1 1 (.a (.v 0) (.n 1)) (.a (.n 16777216) (.n 1)) (.a (.v 1) (.n 1)) (.n 64) (.v 0) (.a (.n 0) (.v 2)) (.a (.v 2) (.n 1)) (.v 1) rfl [_, _, _] h64 (Nat.le_of_eq hl) hj))
    have xx : Ext1 s₀.heap (s''.heap.update kS (Obj.mapSeq (·.push k))) := fun b o hb e => (u.2 b (fun q => by rw [q, k0] at e; cases e)).trans (st.ext _ _ hb (x' b o hb e))
    have tt : TabZ Z (s''.heap.update kS (Obj.mapSeq (·.push k))) := by
      refine ⟨?_, tabZ_eq st.2 (u.2 100 (Ne.symm k100))⟩
      obtain ⟨ps, e, V⟩ := st.1.tab
      refine ⟨ps, (u.2 100 (Ne.symm k100)).trans e, ?_⟩
      rcases V with V | ⟨c', V, c, oc, vs', tq, e', ho, dd, r⟩
      · exact .inl V
      · refine .inr ⟨c', V, c, oc, vs', tq, e', gh_ne ((u.2 c fun q => ?_).trans (of_gh ho)) (gh_neq ho), dd, r⟩
        have ho' := of_gh ho
        rw [q, hk2] at ho'; cases ho'; cases dd
    refine wpAny_pure ⟨rfl, kA ++ [k], c2, (o'.trans st.of).trans ⟨_, _, rfl⟩, xx, tt, hc2, (u.2 a (Ne.symm hka)).trans ha2, by rw [List.length_append, hl]; simp, fun i k' hk'' => ?_⟩
    have up : ∀ b o C, b ≠ 100 → o.cls = .ref C → s'.heap.get? b = some o → (s''.heap.update kS (Obj.mapSeq (·.push k))).get? b = some o := fun b o C hb hc e => (u.2 b (kne b o C (st.ext _ _ hb e) hc)).trans (st.ext _ _ hb e)
    have up2 : ∀ b o C, b ≠ 100 → o.cls = .ref C → s''.heap.get? b = some o → (s''.heap.update kS (Obj.mapSeq (·.push k))).get? b = some o := fun b o C hb hc e => (u.2 b (kne b o C e hc)).trans e
    rcases Nat.lt_or_ge i kA.length with hi | hi
    · rw [List.getElem?_append_left hi] at hk''
      exact S.mono i k' _ _ (hKR i k' hk'') up
    · rw [List.getElem?_append_right hi] at hk''
      have hi0 : i - kA.length = 0 := by
        cases q : i - kA.length with
        | zero => rfl
        | succ z => rw [q] at hk''; simp at hk''
      rw [hi0] at hk''
      have hij : i = j := by exact Nat.le_antisymm (fk3 1 1 1 1 (.v 0) (.v 1) (.v 2) (.a (.n 0) (.v 1)) (.v 3) (.n 0) (.v 0) (.a (.v 3) (.v 2)) rfl [_, _, _, _] (Nat.le_of_eq hl) (Nat.le_of_eq hi0) (sb2 _ _)) (fk2 1 1 1 (.v 0) (.v 1) (.a (.n 0) (.v 0)) (.v 2) (.v 2) (.v 1) rfl [_, _, _] (Nat.le_of_eq hl.symm) hi)
      have hkk : k = k' := by simpa using hk''
      rw [hij, ← hkk]
      exact S.mono j k _ _ hr up2
  case done =>
    rintro s' ⟨ks, e, o', x', t', hk', ha', hl, hKR⟩
    simp only [Nat.zero_add] at hl
    refine wpAny_bind (listItems_at hk' rfl ?_)
    unfold ksk_end
    dsimp only
    have step : ∀ t : Sem PySem.Fin, wpAny (model PR w) A t P E s' → wpAny (model PR w) A (if b = true then (do let _ ← rule "list.sort.reverse"; t) else t) P E s' := by
      intro t ht
      split
      · exact wpAny_bind (wpAny_rule ht)
      · exact ht
    refine step _ ?_
    have hn2 : ¬ vs.toArray.size < 2 := by rw [List.size_toArray]; exact Nat.not_lt_of_le (fk1 1 1 (.n 2) (.v 0) (.n 2) (.v 0) rfl [_] h2)
    rw [if_neg hn2, if_neg hn2]
    refine wpAny_bind (S.kind ks s' hl hKR _ _ ?_)
    rw [kat_pairs b hl]
    have hl' : (katRev b ks).length = (katRev b vs).length := by rw [kat_len, kat_len, hl]
    have hv' : (katRev b vs).length = vs.length := kat_len b vs
    -- the comparison of the places as they lie
    have idx : ∀ i, i < vs.length → ∃ k, (katRev b ks).getD i .none = k ∧ ks[if b then vs.length - 1 - i else i]? = some k := by
      intro i hi
      cases b with
      | false => exact ⟨_, rfl, by simp [katRev]; rw [List.getElem?_eq_getElem (by exact fk2 1 1 1 (.a (.v 0) (.n 1)) (.v 1) (.v 2) (.v 1) (.a (.v 0) (.n 1)) (.v 2) rfl [_, _, _] (Nat.le_of_eq hl.symm) hi)]; simp⟩
      | true =>
        refine ⟨_, rfl, ?_⟩
        have hi' : i < ks.reverse.length := by rw [List.length_reverse]; exact fk2 1 1 1 (.a (.v 0) (.n 1)) (.v 1) (.v 2) (.v 1) (.a (.v 0) (.n 1)) (.v 2) rfl [_, _, _] (Nat.le_of_eq hl.symm) hi
        show ks[vs.length - 1 - i]? = some (ks.reverse.getD i .none)
        rw [List.getD_eq_getElem?_getD, List.getElem?_reverse (by exact fk2 1 1 1 (.a (.v 0) (.n 1)) (.v 1) (.v 2) (.v 1) (.a (.v 0) (.n 1)) (.v 2) rfl [_, _, _] (Nat.le_of_eq hl.symm) hi), hl, List.getElem?_eq_getElem (by exact fk3 1 1 1 1 (.a (.v 0) (.n 1)) (.v 1) (.v 2) (.v 1) (.v 0) (.v 3) (.a (.v 3) (.n 1)) (.v 2) rfl [_, _, _, _] (Nat.le_of_eq hl.symm) (sb1 _ _) (sb3 (fk1 1 1 (.n 1) (.v 0) (.n 2) (.v 0) rfl [_] h2)))]
        rfl
    have PP' : Pre (fun i j => lt (if b then vs.length - 1 - i else i) (if b then vs.length - 1 - j else j)) := ⟨fun i j h => PP.asymm _ _ h, fun i j k h1 h2 => PP.trans _ _ _ h1 h2⟩
    obtain ⟨lp, hlp⟩ : ∃ lp : Nat → Nat → Bool, lp = fun i j => lt (if b then vs.length - 1 - i else i) (if b then vs.length - 1 - j else j) := ⟨_, rfl⟩
    rw [← hlp] at PP'
    have go : (kas_sort (katRev b vs).length).kasWp (kas_ask PR w A oneType' (katRev b ks)) (fun p s'' => p = evK lp (kas_sort vs.length) ∧ StpZ Z s' s'') s' := by
      rw [hv']
      refine wp_evK (lt := lp) (n := vs.length) (fun s'' => StpZ Z s' s'') (fun i j s'' C hi hj hs hC => ?_) _ s' (bel_sort (by exact fk1 1 1 (.a (.n 0) (.n 1)) (.v 0) (.n 2) (.v 0) rfl [_] h2)) (StpZ.refl t') fun s'' hs => ⟨rfl, hs⟩
      unfold kas_ask
      obtain ⟨ki, e1, e1'⟩ := idx i hi
      obtain ⟨kj, e2, e2'⟩ := idx j hj
      rw [e1, e2]
      have ii : (if b then vs.length - 1 - i else i) < vs.length := by split <;> lia
      have jj : (if b then vs.length - 1 - j else j) < vs.length := by split <;> lia
      have up : ∀ b o C, b ≠ 100 → o.cls = .ref C → s'.heap.get? b = some o → s''.heap.get? b = some o := fun b o C hb _ e => hs.ext _ _ hb e
      refine wpAny_mono (S.ask _ _ ki kj s'' ii jj (S.mono _ _ _ _ (hKR _ _ e1') up) (S.mono _ _ _ _ (hKR _ _ e2') up) (o'.trans hs.of) (x'.trans hs.ext) hs.tab) (fun c s3 hc => ?_) fun _ _ e => e
      have hC' := hC s3 (hs.trans hc.2)
      rw [hc.1]
      rw [hlp] at hC'
      exact hC'
    have run := kat_run (E := E) (κ := oneType') (ks := katRev b ks) (vs := katRev b vs) (G := fun p s'' => p = evK lp (kas_sort vs.length) ∧ StpZ Z s' s'')
      (Q := fun st' s'' => (arrOf st').map (·.2) = List.toArray ((evK lp (kas_sort vs.length)).toList.map fun i => (katRev b vs).getD i .none) ∧ failedOf st' = none ∧ StpZ Z s' s'')
      hl' (by rw [hv']; exact h2) (by rw [hv']; exact h64) (fun p st' s'' _ har hf hg => ⟨by rw [kat_snds hl' har, hg.1], hf, hg.2⟩) go
    refine wpAny_bind (wpAny_mono run ?_ fun _ _ e => e)
    · rintro ⟨⟨⟩, st'⟩ s'' ⟨har, hf, hs⟩
      dsimp only at har hf ⊢
      unfold ksk_tail
      dsimp only
      have hk2 := hs.ext _ _ k100 hk'
      have ha2 := hs.ext _ _ a100 ha'
      have u1 := Heap.SameBut.update s''.heap kS (Obj.mapSeq fun _ => (#[] : Array Value))
      refine wpAny_bind (listUpdate_at hk2 rfl ?_ (by rw [List.size_toArray, sizeLine_eq]; exact fk2 1 1 1 (.v 0) (.n 16777216) (.a (.v 1) (.n 1)) (.n 64) (.v 0) (.v 1) rfl [_, _] h64 (Nat.le_of_eq hl)) (Nat.zero_le _))
      refine wpAny_bind (wpAny_letGo ?_)
      have ha4 : (s''.heap.update kS (Obj.mapSeq fun _ => (#[] : Array Value))).get? a = some (seqObj "list" #[] e1) := (u1.2 a (Ne.symm hka)).trans ha2
      refine wpAny_bind (seqEpoch_at ha4 rfl ?_)
      rw [har, kat_outs]
      generalize hq : (evK lp (kas_sort vs.length)).toList = p
      obtain ⟨o1, o2⟩ := sort_ok PP' (n := vs.length) (by exact fk1 1 1 (.n 1) (.v 0) (.n 2) (.v 0) rfl [_] h2)
      rw [hq] at o1 o2
      rw [hlp] at o2
      obtain ⟨q, hO, hq'⟩ : ∃ q, Order b lt vs.length q ∧ katRev b (p.map fun i => (katRev b vs).getD i .none) = q.map fun i => vs.getD i .none := by
        cases b with
        | false => exact ⟨p, ⟨o1, o2⟩, rfl⟩
        | true =>
          refine ⟨(p.map fun i => vs.length - 1 - i).reverse, revMap_order o1 o2, ?_⟩
          show (p.map fun i => vs.reverse.getD i .none).reverse = _
          rw [List.map_reverse, List.map_map]
          congr 1
          refine List.map_congr_left fun i hi => ?_
          have : i < vs.length := by simpa using o1.mem_iff.mp hi
          show vs.reverse.getD i .none = vs.getD (vs.length - 1 - i) .none
          rw [List.getD_eq_getElem?_getD, List.getD_eq_getElem?_getD, List.getElem?_reverse this]
      rw [hq']
      have hlen : (q.map fun i => vs.getD i Value.none).length = vs.length := by rw [List.length_map, hO.1.length_eq]; simp
      refine wpAny_bind (listUpdate_at ha4 rfl ?_ (Nat.zero_le _) (by rw [List.size_toArray, hlen, sizeLine_eq]; exact fk1 1 1 (.v 0) (.a (.n 16777216) (.n 1)) (.a (.v 0) (.n 1)) (.n 64) rfl [_] h64))
      rw [hf]
      simp only [bne_self_eq_false, Bool.false_eq_true, if_false]
      have u2 := Heap.SameBut.update (s''.heap.update kS (Obj.mapSeq fun _ => (#[] : Array Value))) a (Obj.mapSeq fun _ => List.toArray (q.map fun i => vs.getD i Value.none))
      refine wpAny_pure (h _ q _ ((o'.trans hs.of).trans ⟨_, _, rfl⟩) (fun b o hb e => ?_) ?_ hO (get?_update_seq ha4 fun _ => List.toArray (q.map fun i => vs.getD i Value.none)))
      · exact (u2.2 b (ne b o e)).trans ((u1.2 b (fun z => by rw [z, k0] at e; cases e)).trans (hs.ext _ _ hb (x' b o hb e)))
      · refine ⟨?_, tabZ_eq (tabZ_eq hs.2 (u1.2 100 (Ne.symm k100))) (u2.2 100 (Ne.symm a100))⟩
        obtain ⟨ps, e, V⟩ := hs.1.tab
        refine ⟨ps, (u2.2 100 (Ne.symm a100)).trans ((u1.2 100 (Ne.symm k100)).trans e), ?_⟩
        rcases V with V | ⟨c', V, c, oc, vs', tq, e', ho, dd, r⟩
        · exact .inl V
        · refine .inr ⟨c', V, c, oc, vs', tq, e', gh_ne ((u2.2 c fun z => ?_).trans ((u1.2 c fun z => ?_).trans (of_gh ho))) (gh_neq ho), dd, r⟩
          · have ho' := of_gh ho
            rw [z, ha2] at ho'; cases ho'; cases dd
          · have ho' := of_gh ho
            rw [z, hk2] at ho'; cases ho'; cases dd

theorem sorted_W {l : Addr} {kw : List (Str × Value)} {Q E : Value → Shared → Prop} (S : SortAsk Z w A.in1.in1 s₀ f vs lt KR) (PP : Pre lt) (h2 : 2 ≤ vs.length) (h64 : vs.length < 64) (hl : s₀.heap.IsList l vs.toArray) (t₀ : TabZ Z s₀.heap)
    (ha1 : argsOk "sorted" ⟨[.ref l], kw⟩) (ha2 : ∀ x, argsOk "list.sort" ⟨[.ref x], kw⟩) (ht : ∀ x, Builtin.«list.sort» ⟨[.ref x], kw⟩ = ksk_tree x f b)
    (h : ∀ D s' q c, Of s₀ s' → Ext1 s₀.heap s'.heap → TabZ Z s'.heap → Order b lt vs.length q → s₀.heap.get? D = none → s'.heap.get? D = some (seqObj "list" (q.map fun i => vs.getD i .none).toArray c) → Q (.ref D) s') :
    wpAny (model PR w) A (call (.builtin "sorted") [.ref l] kw) Q E s₀ := by
  refine call_function_entry_kw kind_sorted plain_sorted entry_sorted ha1 ?_
  unfold Builtin.«sorted»
  refine wpAny_bind (m := checkCount "sorted" 1 1 _) (wpAny_pure ?_)
  refine wpAny_bind (collect_list hl ?_ (by rw [sizeLine_eq]; exact fk1 1 1 (.v 0) (.n 16777216) (.a (.v 0) (.n 1)) (.n 64) rfl [_] h64))
  refine wpAny_bind (wpAny_newList ?_ (by rw [sizeLine_eq]; exact fk1 1 1 (.v 0) (.n 16777216) (.a (.v 0) (.n 1)) (.n 64) rfl [_] h64))
  have hsz : ((s₀.heap.push (seqObj "list" #[] 0)).update s₀.heap.objs.size (Obj.mapSeq (· ++ vs.toArray))).objs.size = s₀.heap.objs.size + 1 := by
    rw [Heap.size_update, size_push']
  have hoL : (((s₀.heap.push (seqObj "list" #[] 0)).update s₀.heap.objs.size (Obj.mapSeq (· ++ vs.toArray))).push (seqObj "list" vs.toArray 0)).get? (s₀.heap.objs.size + 1) = some (seqObj "list" vs.toArray 0) := by
    rw [← hsz]; exact Heap.get?_push_size _ rfl
  have keep : ∀ b o, s₀.heap.get? b = some o → (((s₀.heap.push (seqObj "list" #[] 0)).update s₀.heap.objs.size (Obj.mapSeq (· ++ vs.toArray))).push (seqObj "list" vs.toArray 0)).get? b = some o := fun b o q => by
    have hlt : b < s₀.heap.objs.size := Heap.lt_size q
    rw [Heap.get?_push_ne _ _ _ (by rw [hsz]; exact Nat.ne_of_lt (Nat.lt_succ_of_lt hlt)), Heap.get?_update_ne _ _ _ _ (Nat.ne_of_lt hlt), Heap.get?_push_ne _ _ _ (Nat.ne_of_lt hlt)]
    exact q
  have t1 : TabZ Z (((s₀.heap.push (seqObj "list" #[] 0)).update s₀.heap.objs.size (Obj.mapSeq (· ++ vs.toArray))).push (seqObj "list" vs.toArray 0)) := by
    refine ⟨?_, t₀.2.imp id fun e => keep _ _ e⟩
    obtain ⟨ps, e, V⟩ := t₀.1
    exact ⟨ps, keep _ _ e, V.ext (Ext1.of keep)⟩
  have new : s₀.heap.get? (s₀.heap.objs.size + 1) = none := Heap.get?_none_of_le (Nat.le_succ _)
  have l100 : s₀.heap.objs.size > 100 := by obtain ⟨ps, e, _⟩ := t₀.1; exact Heap.lt_size e
  show wpAny _ _ _ _ _ { s₀ with heap := ((s₀.heap.push (seqObj "list" #[] 0)).update s₀.heap.objs.size (Obj.mapSeq (· ++ vs.toArray))).push (seqObj "list" vs.toArray 0) }
  rw [hsz]
  refine wpAny_bind (wpAny_holding (wpAny_call_entry_kw slot_list_sort ⟨_, hoL, rfl⟩ entry_list_sort ?body (ha2 _)))
  case body =>
    have ht' := ht (s₀.heap.objs.size + 1)
    show wpAny (model PR w) A.in1.in1 (Builtin.«list.sort» ⟨[.ref (s₀.heap.objs.size + 1)], kw⟩) _ _ _
    rw [ht']
    exact sort_tree (s := { s₀ with heap := ((s₀.heap.push (seqObj "list" #[] 0)).update s₀.heap.objs.size (Obj.mapSeq (· ++ vs.toArray))).push (seqObj "list" vs.toArray 0) }) S PP h2 h64 ⟨_, _, rfl⟩ (Ext1.of keep) t1 hoL new l100
      fun s' q c o' x' t' O e => ⟨_, rfl, wpAny_pure ⟨_, rfl, h _ s' q c o' x' t' O new e⟩⟩
end
end Mine
end
section
open PySem PySem.W PySem.Calls PyProof.Rows
set_option Elab.async false
set_option maxRecDepth 100000
set_option maxHeartbeats 4000000
set_option linter.unusedVariables false
namespace Mine
section
variable {w : World} {A : Around} {s₀ : Shared} {f : Value} {vs : List Value} {lt : Nat → Nat → Bool} {KR : Nat → Value → Heap → Prop}

/-- what max by a key asks of its key and of its comparison -/
structure MaxAsk (w : World) (A : Around) (s₀ : Shared) (f : Value) (vs : List Value) (lt : Nat → Nat → Bool) (KR : Nat → Value → Heap → Prop) : Prop where
  mono : ∀ i v h h', KR i v h → (∀ b o C, b ≠ 100 → o.cls = .ref C → h.get? b = some o → h'.get? b = some o) → KR i v h'
  key : ∀ i v s', vs[i]? = some v → Of s₀ s' → Ext1 s₀.heap s'.heap → Tab s'.heap → wpAny (model PR w) A (call f [v]) (fun k s'' => Stp s' s'' ∧ KR i k s''.heap) (fun _ _ => False) s'
  ask : ∀ i j ki kj s', i < vs.length → j < vs.length → KR i ki s'.heap → KR j kj s'.heap → Of s₀ s' → Ext1 s₀.heap s'.heap → Tab s'.heap → wpAny (model PR w) A (richCompare .Gt kj ki) (fun c s'' => c = .bool (lt i j) ∧ Stp s' s'') (fun _ _ => False) s'

/-- the first of those behind which none stands -/
noncomputable def Top1 (lt : Nat → Nat → Bool) (n i : Nat) : Prop := ∀ j, j < n → lt i j = false ∧ (j < i → lt j i = true)

theorem max_loop {l I S q : Addr} {R : Result → Shared → Prop} (M : MaxAsk w A.in1 s₀ (.ref q) vs lt KR) (PP : Pre lt) (hh : A.handled = none) (hl : s₀.heap.IsList l vs.toArray) (hl100 : l ≠ 100) (hI0 : s₀.heap.get? I = none) (hS0 : s₀.heap.get? S = none) (hI1 : I ≠ 100) (hS1 : S ≠ 100) (hSI : S ≠ I) (hlI : l ≠ I)
    (hR : ∀ i v s', vs[i]? = some v → Top1 lt vs.length i → Of s₀ s' → Ext1 s₀.heap s'.heap → Tab s'.heap → R (.ok (.ret v)) s') :
    ∀ (r j i : Nat) (s : Shared) (vb kb : Value) (c : Nat), vs.length - (j + 1) = r → j + 1 ≤ vs.length → Of s₀ s → Ext1 s₀.heap s.heap → Tab s.heap → s.heap.get? S = some (seqObj "list" #[vb, kb] c) → s.heap.IsListIter I l (j + 1) →
      vs[i]? = some vb → KR i kb s.heap → i ≤ j → (∀ j', j' ≤ j → lt i j' = false ∧ (j' < i → lt j' i = true)) →
      codeAny (model PR w) A (.builtin "max.loop" ⟨[.ref I, .ref q, .ref S], []⟩) R s := by
  have hname : (toString "max" ++ toString ".loop" : String) = "max.loop" := by decide
  have W := Walks.list (prog := PR) (w := w) (A := A.in1) hh I l hlI vs.toArray
  have hsz : vs.toArray.size = vs.length := List.size_toArray ..
  have lst : ∀ {h : Heap}, Ext1 s₀.heap h → h.IsList l vs.toArray := fun x => let ⟨o, e, r⟩ := hl; ⟨o, x _ _ hl100 e, r⟩
  have tabI : ∀ {h h' : Heap} {k : Nat}, Tab h → h.IsListIter I l k → (∀ b o, b ∉ [I] → h.get? b = some o → h'.get? b = some o) → Tab h' := by
    intro h h' k t hit hk
    obtain ⟨ps, e, V⟩ := t
    obtain ⟨oI, eI, cI, dI⟩ := hit
    refine ⟨ps, hk _ _ (by simpa using Ne.symm hI1) e, ?_⟩
    rcases V with V | ⟨c', V, c, oc, vs', tq, e', ho, dd, r⟩
    · exact .inl V
    · refine .inr ⟨c', V, c, oc, vs', tq, e', gh_ne (hk _ _ (fun z => ?_) (of_gh ho)) (gh_neq ho), dd, r⟩
      have z' : c = I := by simpa using z
      have ho' := of_gh ho
      rw [z', eI] at ho'
      cases ho'
      rw [dI] at dd
      cases dd
      simp at r
  have tabS : ∀ {h : Heap} {g : Array Value → Array Value} {xs : Array Value} {c : Nat}, Tab h → h.get? S = some (seqObj "list" xs c) → Tab (h.update S (Obj.mapSeq g)) := by
    intro h g xs c t hS
    have u := Heap.SameBut.update h S (Obj.mapSeq g)
    obtain ⟨ps, e, V⟩ := t
    refine ⟨ps, (u.2 100 (Ne.symm hS1)).trans e, ?_⟩
    rcases V with V | ⟨c', V, c, oc, vs', tq, e', ho, dd, r⟩
    · exact .inl V
    · refine .inr ⟨c', V, c, oc, vs', tq, e', gh_ne ((u.2 c fun z => ?_).trans (of_gh ho)) (gh_neq ho), dd, r⟩
      have ho' := of_gh ho
      rw [z, hS] at ho'; cases ho'; cases dd
  have extI : ∀ {h h' : Heap}, Ext1 s₀.heap h → (∀ b o, b ∉ [I] → h.get? b = some o → h'.get? b = some o) → Ext1 s₀.heap h' := fun x hk b o hb e => hk b o (fun z => by rw [List.mem_singleton.mp z, hI0] at e; cases e) (x b o hb e)
  have extS : ∀ {h : Heap} {g : Array Value → Array Value}, Ext1 s₀.heap h → Ext1 s₀.heap (h.update S (Obj.mapSeq g)) := fun x b o hb e => ((Heap.SameBut.update _ S (Obj.mapSeq _)).2 b (fun z => by rw [z, hS0] at e; cases e)).trans (x b o hb e)
  intro r
  induction r with
  | zero =>
    intro j i s vb kb c hr hj o' x' t' hS hit hvb hkb hij hbest
    have hin : j + 1 = vs.length := by exact Nat.le_antisymm (fk1 1 1 (.a (.v 0) (.n 1)) (.v 1) (.a (.v 0) (.n 1)) (.v 1) rfl [_, _] hj) (fk2 1 1 1 (.v 0) (.a (.v 1) (.n 1)) (.v 2) (.n 0) (.v 0) (.a (.v 2) (.a (.v 1) (.n 1))) rfl [_, _, _] (Nat.le_of_eq hr) (sb2 _ _))
    refine codeAny_builtin PySem.F.entry_max_loop ?_
    rw [Around.under_plainId PySem.F.plain_max_loop _]
    show wpAny _ A.in1 (seqItems? (.ref S) >>= _) _ _ _
    refine wpAny_bind (wpAny_seqItems hS rfl ?_)
    show wpAny _ A.in1 (tryCatch (pyNext (.ref I)) _ >>= _) _ _ _
    refine wpAny_bind (wpAny_tryCatch (W.done _ _ _ ⟨by rw [hsz, ← hin]; exact hit, lst x'⟩ fun h' tk' hk' => ?_))
    have hS' := hk' S _ (by simpa using hSI) hS
    show wpAny _ A.in1 (updateSeq S (fun _ => #[]) >>= _) _ _ _
    refine wpAny_bind ?_
    refine wpAny_updateSeq hS' rfl (wpAny_bind (wpAny_letGo (wpAny_pure ?_)))
    exact hR i vb _ hvb (fun j' hj' => hbest j' (by exact fk2 1 1 1 (.v 0) (.v 1) (.v 2) (.a (.v 1) (.n 1)) (.a (.v 0) (.n 1)) (.v 2) rfl [_, _, _] (Nat.le_of_eq hin.symm) hj')) (o'.trans ⟨_, _, rfl⟩) (extS (extI x' hk')) (tabS (tabI t' hit hk') hS')
  | succ r ih =>
    intro j i s vb kb c hr hj o' x' t' hS hit hvb hkb hij hbest
    have hlt : j + 1 < vs.length := by exact fk2 1 1 1 (.a (.a (.v 0) (.n 1)) (.n 1)) (.v 1) (.a (.v 2) (.n 1)) (.v 3) (.a (.v 3) (.a (.v 0) (.n 1))) (.v 1) rfl [_, _, _, _] (Nat.le_of_eq hr.symm) (sb3 (fk1 1 1 (.a (.v 0) (.n 1)) (.v 1) (.a (.v 0) (.n 1)) (.v 1) rfl [_, _] hj))
    refine codeAny_builtin PySem.F.entry_max_loop ?_
    rw [Around.under_plainId PySem.F.plain_max_loop _]
    show wpAny _ A.in1 (seqItems? (.ref S) >>= _) _ _ _
    refine wpAny_bind (wpAny_seqItems hS rfl ?_)
    show wpAny _ A.in1 (tryCatch (pyNext (.ref I)) _ >>= _) _ _ _
    refine wpAny_bind (wpAny_tryCatch (W.item (j + 1) _ _ _ (by rw [hsz]; exact hlt) ⟨hit, lst x'⟩ fun v h' tk' hP hst' hk' => ?_))
    have hv : vs[j + 1]? = some v := by simpa using hP
    have hS' := hk' S _ (by simpa using hSI) hS
    have x1 := extI x' hk'
    have t1 := tabI t' hit hk'
    have k1 : KR i kb h' := M.mono _ _ _ _ hkb fun b o C hb hc e => hk' b o (fun z => by
      obtain ⟨oI, eI, cI, _⟩ := hit
      rw [List.mem_singleton.mp z, eI] at e; cases e; rw [cI] at hc; cases hc) e
    show wpAny _ A.in1 (tryCatch (holding [v] (call (.ref q) [v])) _ >>= _) _ _ _
    refine wpAny_bind (wpAny_tryCatch (wpAny_holding (wpAny_mono (M.key (j + 1) v _ hv (o'.trans ⟨_, _, rfl⟩) x1 t1) (fun k s2 he => ?_) fun _ _ hF => hF.elim)))
    obtain ⟨st2, hk2⟩ := he
    have hS2 := st2.ext _ _ hS1 hS'
    have k12 : KR i kb s2.heap := M.mono _ _ _ _ k1 fun b o C hb _ e => st2.ext _ _ hb e
    have hit2 : s2.heap.IsListIter I l (j + 1 + 1) := let ⟨oI, e, r⟩ := hst'.1; ⟨oI, st2.ext _ _ hI1 e, r⟩
    have o2 := (o'.trans ⟨h', tk', rfl⟩).trans st2.of
    have x2 := x1.trans st2.ext
    show wpAny _ A.in1 (tryCatch (holding [v, k] (richCompare .Gt k kb >>= _)) _ >>= _) _ _ _
    refine wpAny_bind (wpAny_tryCatch (wpAny_holding (wpAny_bind (wpAny_mono (M.ask i (j + 1) kb k s2 (List.getElem?_eq_some_iff.mp hvb).1 hlt k12 hk2 o2 x2 st2.tab) (fun ans s3 hc => ?_) fun _ _ hF => hF.elim))))
    obtain ⟨rfl, st3⟩ := hc
    refine wpAny_bind (wpAny_holding (wpAny_truthy_bool ?_))
    refine wpAny_bind (wpAny_letGo (wpAny_pure ?_))
    have hS3 := st3.ext _ _ hS1 hS2
    have hit3 : s3.heap.IsListIter I l (j + 1 + 1) := let ⟨oI, e, r⟩ := hit2; ⟨oI, st3.ext _ _ hI1 e, r⟩
    have k13 : KR i kb s3.heap := M.mono _ _ _ _ k12 fun b o C hb _ e => st3.ext _ _ hb e
    have k23 : KR (j + 1) k s3.heap := M.mono _ _ _ _ hk2 fun b o C hb _ e => st3.ext _ _ hb e
    have o3 := o2.trans st3.of
    have x3 := x2.trans st3.ext
    cases hb' : lt i (j + 1) with
    | true =>
      have u := Heap.SameBut.update s3.heap S (Obj.mapSeq fun _ => #[v, k])
      obtain ⟨c2, hc2⟩ : ∃ c2, (s3.heap.update S (Obj.mapSeq fun _ => #[v, k])).get? S = some (seqObj "list" #[v, k] c2) := ⟨_, get?_update_seq hS3 fun _ => #[v, k]⟩
      simp only [if_true]
      refine wpAny_bind ?_
      refine wpAny_updateSeq hS3 rfl (wpAny_bind (wpAny_letGo ?_))
      rw [hname]
      refine wpAny_pure ⟨plainId_quiet PySem.F.plain_max_loop _, ih (j + 1) (j + 1) _ v k c2 (by exact Nat.le_antisymm (fk3 1 1 1 1 (.v 0) (.v 1) (.v 2) (.a (.v 1) (.n 1)) (.v 3) (.a (.v 2) (.a (.v 4) (.n 1))) (.a (.v 0) (.a (.a (.v 4) (.n 1)) (.n 1))) (.v 3) rfl [_, _, _, _, _] (Nat.le_of_eq hr) (sb2 _ _) (sb3 (fk1 1 1 (.a (.a (.v 0) (.n 1)) (.n 1)) (.v 1) (.a (.a (.v 0) (.n 1)) (.n 1)) (.v 1) rfl [_, _] hlt))) (fk3 1 1 1 1 (.v 0) (.v 1) (.a (.v 0) (.n 1)) (.v 2) (.v 3) (.a (.v 1) (.a (.a (.v 4) (.n 1)) (.n 1))) (.a (.v 2) (.a (.v 4) (.n 1))) (.v 3) rfl [_, _, _, _, _] (Nat.le_of_eq hr.symm) (sb2 _ _) (sb3 (fk1 1 1 (.a (.v 0) (.n 1)) (.v 1) (.a (.v 0) (.n 1)) (.v 1) rfl [_, _] hj)))) hlt (o3.trans ⟨_, _, rfl⟩) (extS x3) (tabS st3.tab hS3) hc2 (let ⟨oI, e, r⟩ := hit3; ⟨oI, (u.2 I hSI.symm).trans e, r⟩) hv ?_ (Nat.le_refl _) fun j' hj' => ?_⟩
      · exact M.mono _ _ _ _ k23 fun b o C hb hc e => (u.2 b (fun z => by rw [z, hS3] at e; cases e; cases hc)).trans e
      · by_cases e : j' = j + 1
        · subst e
          exact ⟨PP.irr _, fun q => absurd q (Nat.lt_irrefl _)⟩
        · have b1 := (hbest j' (by lia)).1
          have b2 : lt j' (j + 1) = true := PP.ls b1 hb'
          exact ⟨PP.asymm _ _ b2, fun _ => b2⟩
    | false =>
      simp only [Bool.false_eq_true, if_false]
      refine wpAny_bind (wpAny_letGo ?_)
      rw [hname]
      refine wpAny_pure ⟨plainId_quiet PySem.F.plain_max_loop _, ih (j + 1) i s3 vb kb c (by exact Nat.le_antisymm (fk3 1 1 1 1 (.v 0) (.v 1) (.v 2) (.a (.v 1) (.n 1)) (.v 3) (.a (.v 2) (.a (.v 4) (.n 1))) (.a (.v 0) (.a (.a (.v 4) (.n 1)) (.n 1))) (.v 3) rfl [_, _, _, _, _] (Nat.le_of_eq hr) (sb2 _ _) (sb3 (fk1 1 1 (.a (.a (.v 0) (.n 1)) (.n 1)) (.v 1) (.a (.a (.v 0) (.n 1)) (.n 1)) (.v 1) rfl [_, _] hlt))) (fk3 1 1 1 1 (.v 0) (.v 1) (.a (.v 0) (.n 1)) (.v 2) (.v 3) (.a (.v 1) (.a (.a (.v 4) (.n 1)) (.n 1))) (.a (.v 2) (.a (.v 4) (.n 1))) (.v 3) rfl [_, _, _, _, _] (Nat.le_of_eq hr.symm) (sb2 _ _) (sb3 (fk1 1 1 (.a (.v 0) (.n 1)) (.v 1) (.a (.v 0) (.n 1)) (.v 1) rfl [_, _] hj)))) hlt o3 x3 st3.tab hS3 hit3 hvb k13 (by exact fk1 1 1 (.v 0) (.a (.v 1) (.n 1)) (.v 0) (.v 1) rfl [_, _] hij) fun j' hj' => ?_⟩
      by_cases e : j' = j + 1
      · subst e
        exact ⟨hb', fun q => by lia⟩
      · exact hbest j' (by lia)

theorem max_W {l q : Addr} {Q E : Value → Shared → Prop} (M : MaxAsk w A.in1 s₀ (.ref q) vs lt KR) (PP : Pre lt) (hh : A.handled = none) (hne : 0 < vs.length) (hl : s₀.heap.IsList l vs.toArray) (t₀ : Tab s₀.heap)
    (h : ∀ i v s', vs[i]? = some v → Top1 lt vs.length i → Of s₀ s' → Ext1 s₀.heap s'.heap → Tab s'.heap → Q v s') :
    wpAny (model PR w) A (call (.builtin "max") [.ref l] [(Str.ofString "key", .ref q)]) Q E s₀ := by
  have hname : (toString "max" ++ toString ".loop" : String) = "max.loop" := by decide
  obtain ⟨ol, hol, hlc, _⟩ := id hl
  have hll : l < s₀.heap.objs.size := Heap.lt_size hol
  have hl100 : l ≠ 100 := fun z => by
    obtain ⟨ps, e, _⟩ := t₀
    rw [z, e] at hol; cases hol; cases hlc
  have l100 : 100 < s₀.heap.objs.size := by obtain ⟨ps, e, _⟩ := t₀; exact Heap.lt_size e
  refine kmk_tree PySem.F.kind_max PySem.F.plain_max PySem.F.entry_max (kmk_max_key _ _) ?_
  show wpAny _ A.in1 (Builtin.Builtins.bindParams "max" ["key", "default"] 0 ⟨[], [(Str.ofString "key", .ref q)]⟩ >>= _) _ _ s₀
  refine wpAny_bind (wpAny_of_eq (show Builtin.Builtins.bindParams "max" ["key", "default"] 0 ⟨[], [(Str.ofString "key", .ref q)]⟩ = pure [some (.ref q), none] from rfl) ?_)
  refine wpAny_bind (wpAny_pure ?_)
  refine wpAny_bind (wpAny_pyIter_list hl ?_)
  refine wpAny_bind (wpAny_newList ?_ (Nat.zero_le _))
  rw [hname]
  generalize hS : (s₀.heap.push { cls := .type "list_iterator", data := .fields #[.ref l, .int 0 0] }).objs.size = S
  have hS' : S = s₀.heap.objs.size + 1 := by rw [← hS]; exact size_push' ..
  have hSI : S ≠ s₀.heap.objs.size := by rw [hS']; exact Nat.ne_of_gt (Nat.lt_succ_self _)
  have hlI : l ≠ s₀.heap.objs.size := Nat.ne_of_lt hll
  have S100 : S ≠ 100 := by rw [hS']; exact Nat.ne_of_gt (Nat.lt_succ_of_lt l100)
  have I100 : s₀.heap.objs.size ≠ 100 := Nat.ne_of_gt l100
  have S0 : s₀.heap.get? S = none := Heap.get?_none_of_le (by rw [hS']; exact Nat.le_succ _)
  have I0 : s₀.heap.get? s₀.heap.objs.size = none := Heap.get?_none_of_le (Nat.le_refl _)
  generalize hH : (s₀.heap.push { cls := .type "list_iterator", data := .fields #[.ref l, .int 0 0] }).push (seqObj "list" #[] 0) = H
  have keep : ∀ b o, s₀.heap.get? b = some o → H.get? b = some o := fun b o e => by rw [← hH]; exact Heap.get?_push_of_some _ (Heap.get?_push_of_some _ e)
  have gI : H.get? s₀.heap.objs.size = some { cls := .type "list_iterator", data := .fields #[.ref l, .int 0 0] } := by rw [← hH]; exact Heap.get?_push_of_some _ (Heap.get?_push_size _ rfl)
  have gS : H.get? S = some (seqObj "list" #[] 0) := by rw [← hH, ← hS]; exact Heap.get?_push_size _ rfl
  have tH : Tab H := by
    obtain ⟨ps, e, V⟩ := t₀
    exact ⟨ps, keep _ _ e, V.ext (Ext1.of keep)⟩
  refine wpAny_pure ⟨plainId_quiet PySem.F.plain_max_loop _, ?_⟩
  have W := Walks.list (prog := PR) (w := w) (A := A.in1) hh s₀.heap.objs.size l hlI vs.toArray
  have hsz : vs.toArray.size = vs.length := List.size_toArray ..
  refine codeAny_builtin PySem.F.entry_max_loop ?_
  rw [Around.under_plainId PySem.F.plain_max_loop _]
  show wpAny _ A.in1 (seqItems? (.ref S) >>= _) _ _ { s₀ with heap := H }
  refine wpAny_bind (wpAny_seqItems gS rfl ?_)
  show wpAny _ A.in1 (tryCatch (pyNext (.ref s₀.heap.objs.size)) _ >>= _) _ _ _
  refine wpAny_bind (wpAny_tryCatch (W.item 0 _ _ _ (by rw [hsz]; exact hne) ⟨⟨_, gI, rfl, rfl⟩, let ⟨o, e, r⟩ := hl; ⟨o, keep _ _ e, r⟩⟩ fun v h' tk' hP hst' hk' => ?_))
  have hv : vs[0]? = some v := by simpa using hP
  have gS' := hk' S _ (by simpa using hSI) gS
  have x1 : Ext1 s₀.heap h' := fun b o hb e => hk' b o (fun z => by rw [List.mem_singleton.mp z, I0] at e; cases e) (keep b o e)
  have t1 : Tab h' := by
    obtain ⟨ps, e, V⟩ := tH
    refine ⟨ps, hk' _ _ (by simpa using Ne.symm I100) e, ?_⟩
    rcases V with V | ⟨c', V, c, oc, vs', tq, e', ho, dd, r⟩
    · exact .inl V
    · refine .inr ⟨c', V, c, oc, vs', tq, e', gh_ne (hk' _ _ (fun z => ?_) (of_gh ho)) (gh_neq ho), dd, r⟩
      have z' : c = s₀.heap.objs.size := by simpa using z
      have ho' := of_gh ho
      rw [z', gI] at ho'
      cases ho'
      cases dd
      simp at r
  show wpAny _ A.in1 (tryCatch (holding [v] (call (.ref q) [v])) _ >>= _) _ _ _
  refine wpAny_bind (wpAny_tryCatch (wpAny_holding (wpAny_mono (M.key 0 v _ hv ⟨_, _, rfl⟩ x1 t1) (fun k s2 he => ?_) fun _ _ hF => hF.elim)))
  obtain ⟨st2, hk2⟩ := he
  have gS2 := st2.ext _ _ S100 gS'
  have hit2 : s2.heap.IsListIter s₀.heap.objs.size l 1 := let ⟨oI, e, r⟩ := hst'.1; ⟨oI, st2.ext _ _ I100 e, r⟩
  have u := Heap.SameBut.update s2.heap S (Obj.mapSeq fun _ => #[v, k])
  obtain ⟨c2, hc2⟩ : ∃ c2, (s2.heap.update S (Obj.mapSeq fun _ => #[v, k])).get? S = some (seqObj "list" #[v, k] c2) := ⟨_, get?_update_seq gS2 fun _ => #[v, k]⟩
  show wpAny _ A.in1 (updateSeq S (fun _ => #[v, k]) >>= _) _ _ _
  refine wpAny_bind ?_
  refine wpAny_updateSeq gS2 rfl ?_
  rw [hname]
  have o2 : Of s₀ s2 := Of.trans ⟨h', tk', rfl⟩ st2.of
  have x2 : Ext1 s₀.heap (s2.heap.update S (Obj.mapSeq fun _ => #[v, k])) := fun b o hb e => (u.2 b (fun z => by rw [z, S0] at e; cases e)).trans ((x1.trans st2.ext) b o hb e)
  have t2 : Tab (s2.heap.update S (Obj.mapSeq fun _ => #[v, k])) := by
    obtain ⟨ps, e, V⟩ := st2.tab
    refine ⟨ps, (u.2 100 (Ne.symm S100)).trans e, ?_⟩
    rcases V with V | ⟨c', V, c, oc, vs', tq, e', ho, dd, r⟩
    · exact .inl V
    · refine .inr ⟨c', V, c, oc, vs', tq, e', gh_ne ((u.2 c fun z => ?_).trans (of_gh ho)) (gh_neq ho), dd, r⟩
      have ho' := of_gh ho
      rw [z, gS2] at ho'; cases ho'; cases dd
  refine wpAny_pure ⟨plainId_quiet PySem.F.plain_max_loop _, max_loop M PP hh hl hl100 I0 S0 I100 S100 hSI hlI (fun i v s' a b c d e => h i v s' a b c d e) _ 0 0 _ v k c2 rfl hne (o2.trans ⟨_, _, rfl⟩) x2 t2 hc2 (let ⟨oI, e, r⟩ := hit2; ⟨oI, (u.2 _ hSI.symm).trans e, r⟩) hv ?_ (Nat.le_refl _) fun j' hj' => ?_⟩
  · exact M.mono _ _ _ _ hk2 fun b o C hb hc e => (u.2 b (fun z => by rw [z, gS2] at e; cases e; cases hc)).trans e
  · obtain rfl : j' = 0 := by exact Nat.le_antisymm (fk1 1 1 (.v 0) (.n 0) (.v 0) (.n 0) rfl [_] hj') (fk0 1 (.n 0) (.v 0) rfl [_])
    exact ⟨PP.irr _, fun q => absurd q (Nat.lt_irrefl _)⟩
end
end Mine
end
section
open PySem PySem.W PySem.Calls PyProof.Rows
set_option Elab.async false
set_option maxRecDepth 100000
set_option maxHeartbeats 8000000
set_option linter.unusedVariables false
namespace Mine
noncomputable def turnZ (ws : List (Int × Bool)) (x y : Th) : Int := red (ws.map (ask1 x y))
inductive KeyK (C mf : Addr) (h : Heap) : Prop
  | mk (c : CV) (bt : Addr) (tn : Tok) (N md cl : Addr) (K1 : KC c bt tn C N md h) (m1 : MthAt "__init__" "cmp_to_key.<locals>.K.__init__" [] c.fi h) (m2 : MthAt "__lt__" "cmp_to_key.<locals>.K.__lt__" [(Str.ofString "mycmp", cl)] c.fl h) (m3 : MthAt "__gt__" "cmp_to_key.<locals>.K.__gt__" [(Str.ofString "mycmp", cl)] c.fg h)
    (e : ∃ o, h.get? cl = some o ∧ o.data = .cell (some (.ref mf))) : KeyK C mf h
inductive KeyM (ws : List (Int × Bool)) (mf : Addr) (h : Heap) : Prop
  | mk (name qual : Str) (q0 q1 p0 p1 p2 p3 p4 p5 p6 p7 p8 : Pos) (cw : Addr) (pm : Value) (c' : Addr) (ct : Value) (D : Addr) (e1 : h.get? mf = some (kla_obj name qual (lamP q0 q1) (lamB p0 p1 p2 p3 p4 p5 p6 p7 p8) lamS [(Str.ofString "wishes", cw)] pm c' ct)) (e2 : h.CodeRec (.ref c') qual) (e3 : (c' : Nat) ≠ 100)
    (e4 : ∃ o, h.get? cw = some o ∧ o.data = .cell (some (.ref D))) (e5 : WsAt h D ws) : KeyM ws mf h
/-- all that the keys need of the heap -/
structure KeyAt (ws : List (Int × Bool)) (th : Nat → Th) (vs : List Value) (C mf : Addr) (h : Heap) : Prop where
  k : KeyK C mf h
  l : KeyM ws mf h
  h2 : h.get? cStatics = some ⟨.none, none, .dict #[] 0, #[]⟩
  items : ∀ i v, vs[i]? = some v → ∃ t ta fa n, v = .ref t ∧ h.get? t = some (PySem.W.listOf #[.ref ta, fa] n) ∧ ThAt h ta (th i)
theorem KeyAt.next {ws : List (Int × Bool)} {th : Nat → Th} {vs : List Value} {C mf : Addr} {h h' : Heap} (K : KeyAt ws th vs C mf h) (x : Ext1 h h') (t : Tab h) : KeyAt ws th vs C mf h' := by
  obtain ⟨ps, h100, _⟩ := t
  have e : ∀ b o, o.cls ≠ .none → h.get? b = some o → h'.get? b = some o := fun b o hc q => x b o (ne100 h100 q hc) q
  have ec' : ∀ b o v, o.data = .cell v → h.get? b = some o → h'.get? b = some o := fun b o v hd q => x b o (fun z => by rw [z, h100] at q; cases q; cases hd) q
  have mt : ∀ n q cl f, MthAt n q cl f h → MthAt n q cl f h' := fun n q cl f m => by
    obtain ⟨c, ct, pm, e1, ⟨c2, oc, vs2, t2, ec, g2, d1, d2⟩, o, e2, e3⟩ := m
    cases ec
    rw [g2] at e2
    cases e2
    have g2' := e _ _ (by rw [e3]; intro z; cases z) g2
    exact ⟨c, ct, pm, e _ _ (by intro z; cases z) e1, ⟨c, oc, vs2, t2, rfl, g2', d1, d2⟩, oc, g2', e3⟩
  refine ⟨?_, ?_, x _ _ (by decide) K.h2, fun i v hv => ?_⟩
  · obtain ⟨c, bt, tn, N, md, cl, K1, m1, m2, m3, o, c1, c3⟩ := K.k
    refine ⟨c, bt, tn, N, md, cl, ⟨e _ _ (by intro z; cases z) K1.hC, ?_, ?_⟩, mt _ _ _ _ m1, mt _ _ _ _ m2, mt _ _ _ _ m3, o, ec' _ _ _ c3 c1, c3⟩
    · obtain ⟨a, b, f, g, q⟩ := K1.hN
      exact ⟨a, b, f, g, e _ _ (by intro z; cases z) q⟩
    · obtain ⟨a, q⟩ := K1.hm
      exact ⟨a, e _ _ (by intro z; cases z) q⟩
  · obtain ⟨name, qual, q0, q1, p0, p1, p2, p3, p4, p5, p6, p7, p8, cw, pm, c', ct, D, e1, ⟨c2, oc, vs2, t2, ec, g2, d1, d2⟩, c1, ⟨ow, w1, w3⟩, wd⟩ := K.l
    cases ec
    have g2' := x _ _ c1 g2
    exact ⟨name, qual, q0, q1, p0, p1, p2, p3, p4, p5, p6, p7, p8, cw, pm, c', ct, D, e _ _ (by intro z; cases z) e1, ⟨c', oc, vs2, t2, rfl, g2', d1, d2⟩, c1, ⟨ow, ec' _ _ _ w3 w1, w3⟩, wd.keeps x ⟨ps, h100⟩⟩
  · obtain ⟨t, ta, fa, n, rfl, e1, a0, a1, a2, a3, e2⟩ := K.items i v hv
    exact ⟨t, ta, fa, n, rfl, e _ _ (by intro z; cases z) e1, a0, a1, a2, a3, e _ _ (by intro z; cases z) e2⟩
noncomputable def KRel (C : Addr) (vs : List Value) (i : Nat) (k : Value) (h : Heap) : Prop := ∃ t x, vs[i]? = some (.ref t) ∧ k = .ref x ∧ InsK C t x h ∧ x ≠ 100
section
variable {w : World} {loose : List Str} {mean : ExcName → Option Value} {mg mb : Str → Option Value} {A : Around} {s₀ : Shared} {ws : List (Int × Bool)} {th : Nat → Th} {vs : List Value} {C mf : Addr}
theorem kr_mono : ∀ i v h h', KRel C vs i v h → (∀ b o C, b ≠ 100 → o.cls = .ref C → h.get? b = some o → h'.get? b = some o) → KRel C vs i v h' := by
  rintro i v h h' ⟨t, x, e1, e2, ⟨dx, e3⟩, e4⟩ k
  exact ⟨t, x, e1, e2, ⟨dx, k _ _ _ e4 rfl e3⟩, e4⟩
theorem kr_key (W : Wd w loose mean mg mb s₀.heap) (K : KeyAt ws th vs C mf s₀.heap) (r : Rm A 14) : ∀ i v s', vs[i]? = some v → Of s₀ s' → Ext1 s₀.heap s'.heap → Tab s'.heap → wpAny (model PR w) A (call (.ref C) [v]) (fun k s'' => Stp s' s'' ∧ KRel C vs i k s''.heap) (fun _ _ => False) s' := by
  rintro i v s' hv of x t
  have K' := K.next x W.tab
  obtain ⟨c, bt, tn, N, md, cl, K1, m1, _⟩ := K'.k
  obtain ⟨t0, ta, fa, n, rfl, _⟩ := K'.items i v hv
  have h2 := K'.h2
  obtain ⟨h, g, d, tk, os⟩ := s'
  refine k_make K1 m1 h2 (r.le (by decide)) fun xx h' tk' k ins => ?_
  obtain ⟨ps, h100, V⟩ := t
  refine ⟨⟨h', tk', rfl, Ext1.of k, ps, k _ _ h100, V.ext (Ext1.of k)⟩, t0, xx, hv, rfl, ins, fun q => ?_⟩
  obtain ⟨dx, e⟩ := ins
  rw [q, k _ _ h100] at e
  cases e
theorem kr_lam (W : Wd w loose mean mg mb s₀.heap) (K : KeyAt ws th vs C mf s₀.heap) {i j : Nat} {a b : Addr} (ha : vs[i]? = some (.ref a)) (hb : vs[j]? = some (.ref b)) : ∀ (B : Around) (s' : Shared), Rm B 9 → St0 s₀ s' → wpAny (model PR w) B (call (.ref mf) [.ref a, .ref b]) (fun v s'' => Stp s' s'' ∧ ∃ t, v = .int (turnZ ws (th i) (th j)) t) (fun _ _ => False) s' := by
  rintro B s' r ⟨h', tk', rfl, k⟩
  have K' := K.next (Ext1.of k) W.tab
  obtain ⟨name, qual, q0, q1, p0, p1, p2, p3, p4, p5, p6, p7, p8, cw, pm, c', ct, D, e1, hrec, _, hw, wd⟩ := K'.l
  obtain ⟨t1, ta, fa, n1, q1', e1a, th1⟩ := K'.items i _ ha
  obtain ⟨t2, tb, fb, n2, q2', e2a, th2⟩ := K'.items j _ hb
  cases q1'
  cases q2'
  exact c_klam (W.keeps k) r e1 hrec hw e1a e2a th1 th2 wd
theorem key_sortAsk (W : Wd w loose mean mg mb s₀.heap) (K : KeyAt ws th vs C mf s₀.heap) (r : Rm A 14) (h2 : 2 ≤ vs.length) : SortAsk True w A s₀ (.ref C) vs (fun i j => decide (turnZ ws (th i) (th j) < 0)) (KRel C vs) where
  mono := kr_mono
  key := fun i v s' hv of x t => wpAny_mono (kr_key W K r i v s' hv of x t.1) (fun k s'' h => ⟨⟨h.1, .inl trivial⟩, h.2⟩) fun _ _ e => e
  kind := fun ks s' hl hKR Q E hq => by
    refine kas_kind (T := .ref C) (by exact fk2 1 1 1 (.n 2) (.v 0) (.n 2) (.v 1) (.v 1) (.v 0) rfl [_, _] h2 (Nat.le_of_eq hl.symm)) (fun v hv => ?_) rfl (by simp) hq
    obtain ⟨i, hi⟩ := List.getElem?_of_mem hv
    obtain ⟨t, x, e1, rfl, ⟨dx, e3⟩, e4⟩ := hKR i v hi
    exact fun A Q E s k q => wpAny_typeOf_ref (k _ _ e3) q
  ask := by
    rintro i j ki kj s' hi hj ⟨a, x, ha, rfl, ix, _⟩ ⟨b, y, hb, rfl, iy, _⟩ of ex t
    have K' := K.next ex W.tab
    have W' := W.next ex t.1
    obtain ⟨c, bt, tn, N, md, cl, K1, m1, m2, m3, hcl⟩ := id K'.k
    obtain ⟨name, qual, q0, q1, p0, p1, p2, p3, p4, p5, p6, p7, p8, cw, pm, c', ct, D, e1, _⟩ := id K'.l
    refine wpAny_mono ?_ (fun c s'' (h : _ ∧ Stp _ _) => ⟨h.1, h.2, .inl trivial⟩) fun _ _ e => e
    exact key_lt W' (r.le (by decide)) K1 m2 hcl ⟨_, _, e1, rfl⟩ ix iy (kr_lam W' K' ha hb)
theorem key_maxAsk (W : Wd w loose mean mg mb s₀.heap) (K : KeyAt ws th vs C mf s₀.heap) (r : Rm A 14) : MaxAsk w A s₀ (.ref C) vs (fun i j => decide (0 < turnZ ws (th j) (th i))) (KRel C vs) where
  mono := kr_mono
  key := kr_key W K r
  ask := by
    rintro i j ki kj s' hi hj ⟨a, x, ha, rfl, ix, _⟩ ⟨b, y, hb, rfl, iy, _⟩ of ex t
    have K' := K.next ex W.tab
    have W' := W.next ex t
    obtain ⟨c, bt, tn, N, md, cl, K1, m1, m2, m3, hcl⟩ := id K'.k
    obtain ⟨name, qual, q0, q1, p0, p1, p2, p3, p4, p5, p6, p7, p8, cw, pm, c', ct, D, e1, _⟩ := id K'.l
    exact key_gt W' (r.le (by decide)) K1 m3 hcl ⟨_, _, e1, rfl⟩ iy ix (kr_lam W' K' hb ha)
end
end Mine
end
section
open PySem PySem.W PySem.Calls PyProof.Rows
set_option Elab.async false
set_option maxRecDepth 100000
set_option maxHeartbeats 8000000
set_option linter.unusedVariables false
namespace Mine
/-- a comparison of a total preorder: -1, 0, 1 -/
structure Cmp {α : Type} (c : α → α → Int) : Prop where
  anti : ∀ x y, c y x = - c x y
  trans : ∀ x y z, c x y ≤ 0 → c y z ≤ 0 → c x z ≤ 0
theorem Cmp.zero {α : Type} {c : α → α → Int} (h : Cmp c) {x y z : α} (a : c x y = 0) : c x z = 0 ↔ c y z = 0 := by
  have b : c y x = 0 := by rw [h.anti, a]; rfl
  constructor
  · intro e
    have h1 := h.trans y x z (by lia) (by lia)
    have h2 := h.trans z x y (by rw [h.anti]; lia) (by lia)
    rw [h.anti] at h2
    lia
  · intro e
    have h1 := h.trans x y z (by lia) (by lia)
    have h2 := h.trans z y x (by rw [h.anti]; lia) (by lia)
    rw [h.anti] at h2
    lia
theorem Cmp.lt_le {α : Type} {c : α → α → Int} (h : Cmp c) {x y z : α} (a : c x y < 0) (b : c y z ≤ 0) : c x z < 0 := by
  have h1 := h.trans x y z (by lia) b
  rcases Int.lt_or_eq_of_le h1 with q | q
  · exact q
  · have h2 := h.trans y z x b (by rw [h.anti]; lia)
    rw [h.anti] at h2
    lia
theorem Cmp.le_lt {α : Type} {c : α → α → Int} (h : Cmp c) {x y z : α} (a : c x y ≤ 0) (b : c y z < 0) : c x z < 0 := by
  have h1 := h.trans x y z a (by lia)
  rcases Int.lt_or_eq_of_le h1 with q | q
  · exact q
  · have h2 := h.trans z x y (by rw [h.anti]; lia) a
    rw [h.anti] at h2
    lia
theorem Cmp.neg {α : Type} {c : α → α → Int} (h : Cmp c) : Cmp fun x y => - c x y where
  anti := fun x y => by rw [h.anti]
  trans := fun x y z a b => by
    have h1 := h.trans z y x (by rw [h.anti]; lia) (by rw [h.anti]; lia)
    rw [h.anti] at h1
    lia
theorem Cmp.lex {α : Type} {c e : α → α → Int} (h : Cmp c) (g : Cmp e) : Cmp fun x y => if c x y = 0 then e x y else c x y where
  anti := fun x y => by
    have a := h.anti x y
    have b := g.anti x y
    by_cases q : c x y = 0
    · rw [if_pos q, if_pos (by lia)]
      exact b
    · rw [if_neg q, if_neg (by lia)]
      exact a
  trans := fun x y z a b => by
    by_cases q : c x y = 0
    · rw [if_pos q] at a
      by_cases p : c y z = 0
      · rw [if_pos p] at b
        rw [if_pos ((h.zero q).mpr p)]
        exact g.trans x y z a b
      · rw [if_neg p] at b
        have := h.le_lt (x := x) (y := y) (z := z) (by lia) (by lia)
        rw [if_neg (by lia)]
        lia
    · rw [if_neg q] at a
      have b' : c y z ≤ 0 := by
        by_cases p : c y z = 0
        · lia
        · rw [if_neg p] at b; exact b
      have := h.lt_le (x := x) (y := y) (z := z) (by lia) b'
      rw [if_neg (by lia)]
      lia
theorem Cmp.comap {α β : Type} {c : β → β → Int} (h : Cmp c) (f : α → β) : Cmp fun x y => c (f x) (f y) := ⟨fun x y => h.anti _ _, fun x y z => h.trans _ _ _⟩
theorem b2i_cases (b : Bool) : b2i b = if b then 1 else 0 := rfl
theorem cmpI_ok : Cmp cmpI where
  anti := fun x y => by unfold cmpI; lia
  trans := fun x y z => by
    unfold cmpI
    simp only [b2i_cases, decide_eq_true_eq]
    intro a b
    split at a <;> split at a <;> split at b <;> split at b <;> split <;> split <;> lia
theorem red_cons (a : Int) (xs : List Int) : red (a :: xs) = if a = 0 then red xs else a := by
  have aux : ∀ (l : List Int) (b : Int), b ≠ 0 → l.foldl (fun a b => if a = 0 then b else a) b = b := by
    intro l
    induction l with
    | nil => intro b _; rfl
    | cons c l ih => intro b hb; simp only [List.foldl_cons, if_neg hb]; exact ih b hb
  unfold red
  simp only [List.foldl_cons, if_true]
  by_cases q : a = 0
  · subst q; simp
  · rw [if_neg q]; exact aux xs a q
theorem pre_of {c : Th → Th → Int} (h : Cmp c) (th : Nat → Th) : Pre fun i j => decide (c (th i) (th j) < 0) where
  asymm := fun i j q => by
    have a := h.anti (th i) (th j)
    have q' : c (th i) (th j) < 0 := by simpa using q
    simp only [decide_eq_false_iff_not]
    lia
  trans := fun i j k a b => by
    simp only [decide_eq_false_iff_not] at a b ⊢
    have h1 := h.anti (th i) (th j)
    have h2 := h.anti (th j) (th k)
    have h3 := h.anti (th i) (th k)
    have := h.trans (th i) (th j) (th k) (by lia) (by lia)
    lia
end Mine
end
section
open PySem PySem.W PySem.Calls PyProof.Rows
set_option Elab.async false
set_option maxRecDepth 100000
set_option maxHeartbeats 8000000
set_option linter.unusedVariables false
namespace Mine
theorem cmpS_ok : Cmp cmpS where
  anti := fun x y => by unfold cmpS; lia
  trans := fun x y z => by
    unfold cmpS
    simp only [b2i_cases, decide_eq_true_eq]
    generalize x.cps.toList = a
    generalize y.cps.toList = b
    generalize z.cps.toList = c
    intro h1 h2
    have p : a ≤ b := by
      intro q
      have := List.lt_asymm q
      simp [q, this] at h1
    have r : b ≤ c := by
      intro q
      have := List.lt_asymm q
      simp [q, this] at h2
    have u : ¬ c < a := List.le_trans p r
    rw [if_neg u]
    split <;> lia
theorem cmp4_ok (w : Int) : Cmp fun x y => cmp4 x y w := by
  unfold cmp4
  by_cases h0 : w = 0
  · simp only [h0, if_true]; exact cmpI_ok.comap Th.k0
  · simp only [h0, if_false]
    by_cases h1 : w = 1
    · simp only [h1, if_true]; exact cmpI_ok.comap Th.k1
    · simp only [h1, if_false]
      by_cases h2 : w = 2
      · simp only [h2, if_true]; exact cmpS_ok.comap Th.tx
      · simp only [h2, if_false]; exact cmpI_ok.comap Th.sz
theorem ask1_ok (w : Int × Bool) : Cmp fun x y => ask1 x y w := by
  unfold ask1
  cases w.2
  · simpa using cmp4_ok w.1
  · simpa using (cmp4_ok w.1).neg
theorem turnZ_cons (w : Int × Bool) (ws : List (Int × Bool)) (x y : Th) : turnZ (w :: ws) x y = if ask1 x y w = 0 then turnZ ws x y else ask1 x y w := by
  unfold turnZ
  rw [List.map_cons, red_cons]
theorem turnZ_ok : ∀ ws : List (Int × Bool), Cmp (turnZ ws)
  | [] => ⟨fun _ _ => rfl, fun _ _ _ _ _ => Int.le_refl 0⟩
  | w :: ws => by
    have e : turnZ (w :: ws) = fun x y => if ask1 x y w = 0 then turnZ ws x y else ask1 x y w := by
      funext x y; exact turnZ_cons w ws x y
    rw [e]
    exact (ask1_ok w).lex (turnZ_ok ws)
/-- the order that sorted asks of the keys -/
theorem sort_pre (ws : List (Int × Bool)) (th : Nat → Th) : Pre fun i j => decide (turnZ ws (th i) (th j) < 0) := pre_of (turnZ_ok ws) th
/-- max asks the same order -/
theorem max_lt (ws : List (Int × Bool)) (th : Nat → Th) (i j : Nat) : decide (0 < turnZ ws (th j) (th i)) = decide (turnZ ws (th i) (th j) < 0) := by
  have := (turnZ_ok ws).anti (th i) (th j)
  exact decide_eq_decide.mpr (by lia)
end Mine
end
section
open PySem PySem.W PySem.Calls PyProof.Rows
set_option Elab.async false
set_option maxRecDepth 100000
set_option maxHeartbeats 8000000
set_option linter.unusedVariables false
namespace Mine
/-- an order has one list -/
theorem order_uniq {lt : Nat → Nat → Bool} (P : Pre lt) : ∀ {p q : List Nat}, p.Perm q → p.Pairwise (TT lt) → q.Pairwise (TT lt) → p = q
  | [], q, h, _, _ => (List.nil_perm.mp h).symm
  | a :: p, [], h, _, _ => absurd h.length_eq (by simp)
  | a :: p, b :: q, h, hp, hq => by
    have e : a = b := by
      apply Classical.byContradiction
      intro ne
      have ha : a ∈ q := by
        have : a ∈ b :: q := h.mem_iff.mp (by simp)
        rcases List.mem_cons.mp this with r | r
        · exact absurd r ne
        · exact r
      have hb : b ∈ p := by
        have : b ∈ a :: p := h.mem_iff.mpr (by simp)
        rcases List.mem_cons.mp this with r | r
        · exact absurd r.symm ne
        · exact r
      exact TT.asymm P ((List.pairwise_cons.mp hp).1 b hb) ((List.pairwise_cons.mp hq).1 a ha)
    subst e
    rw [order_uniq P ((List.perm_cons a).mp h) (List.pairwise_cons.mp hp).2 (List.pairwise_cons.mp hq).2]
/-- the order of one wish among the places of a list p -/
noncomputable def lt1 (th : Nat → Th) (p : List Nat) (w : Int) (i j : Nat) : Bool := decide (cmp4 (th (p.getD i 0)) (th (p.getD j 0)) w < 0)
noncomputable def ltW (th : Nat → Th) (ws : List (Int × Bool)) (i j : Nat) : Bool := decide (turnZ ws (th i) (th j) < 0)
theorem lt1_pre (th : Nat → Th) (p : List Nat) (w : Int) : Pre (lt1 th p w) := pre_of (cmp4_ok w) fun i => th (p.getD i 0)
/-- one more stable sort, by an earlier wish -/
theorem radix {th : Nat → Th} {ws : List (Int × Bool)} {p q : List Nat} {n : Nat} {w : Int} {b : Bool} (hp : p.Perm (List.range n)) (ho : p.Pairwise (TT (ltW th ws))) (hq : Order b (lt1 th p w) n q) :
    (q.map fun i => p.getD i 0).Perm (List.range n) ∧ (q.map fun i => p.getD i 0).Pairwise (TT (ltW th ((w, b) :: ws))) := by
  have hn : p.length = n := by simpa using hp.length_eq
  have hm : ∀ x ∈ q, x < n := fun x hx => by simpa using hq.1.mem_iff.mp hx
  constructor
  · refine (hq.1.map _).trans ?_
    have e : (List.range n).map (fun i => p.getD i 0) = p := by
      refine List.ext_getElem (by simp [hn]) fun i h1 h2 => ?_
      simp [List.getD_eq_getElem?_getD, List.getElem?_eq_getElem h2]
    rw [e]; exact hp
  · rw [List.pairwise_map]
    refine List.pairwise_iff_forall_sublist.mpr ?_
    intro x y hxy
    have hx := hm x (hxy.subset (by simp))
    have hy := hm y (hxy.subset (by simp))
    have h := List.pairwise_iff_forall_sublist.mp hq.2 hxy
    have hz : ∀ x y, turnZ ((w, b) :: ws) (th (p.getD x 0)) (th (p.getD y 0)) = if cmp4 (th (p.getD x 0)) (th (p.getD y 0)) w = 0 then turnZ ws (th (p.getD x 0)) (th (p.getD y 0)) else if b then - cmp4 (th (p.getD x 0)) (th (p.getD y 0)) w else cmp4 (th (p.getD x 0)) (th (p.getD y 0)) w := by
      intro x y
      rw [turnZ_cons]
      unfold ask1
      cases b <;> simp
    have an := (cmp4_ok w).anti (th (p.getD x 0)) (th (p.getD y 0))
    have h' : (if b then - cmp4 (th (p.getD x 0)) (th (p.getD y 0)) w else cmp4 (th (p.getD x 0)) (th (p.getD y 0)) w) < 0 ∨ (cmp4 (th (p.getD x 0)) (th (p.getD y 0)) w = 0 ∧ x < y) := by
      unfold TT ltb lt1 at h
      cases b <;> simp only [if_true, Bool.false_eq_true, if_false, decide_eq_true_eq, decide_eq_false_iff_not] at h ⊢ <;> lia
    unfold TT ltW
    have hz1 := hz x y
    have an2 := (turnZ_ok ((w, b) :: ws)).anti (th (p.getD x 0)) (th (p.getD y 0))
    simp only [decide_eq_true_eq, decide_eq_false_iff_not]
    rcases h' with h' | ⟨h', hlt⟩
    · left
      rw [hz1]
      split
      · rename_i q0
        rw [q0] at h'
        cases b <;> simp at h'
      · exact h'
    · rw [if_pos h'] at hz1
      have g : TT (ltW th ws) (p.getD x 0) (p.getD y 0) := by
        have := List.pairwise_iff_getElem.mp ho x y (by lia) (by lia) hlt
        simpa [List.getD_eq_getElem?_getD, List.getElem?_eq_getElem, hn, hx, hy] using this
      have an3 := (turnZ_ok ws).anti (th (p.getD x 0)) (th (p.getD y 0))
      unfold TT ltW at g
      simp only [decide_eq_true_eq, decide_eq_false_iff_not] at g
      rcases g with g | ⟨g, g'⟩
      · left; lia
      · right; exact ⟨by lia, g'⟩
theorem range_ord (th : Nat → Th) (n : Nat) : (List.range n).Pairwise (TT (ltW th [])) := by
  refine List.Pairwise.imp (fun {a b} h => ?_) List.pairwise_lt_range
  exact Or.inr ⟨rfl, h⟩
/-- the sort by keys and the sorts wish by wish give one list -/
theorem radix_end {th : Nat → Th} {ws : List (Int × Bool)} {p q : List Nat} {n : Nat} (hp : p.Perm (List.range n)) (ho : p.Pairwise (TT (ltW th ws))) (hq : Order false (ltW th ws) n q) : p = q :=
  order_uniq (sort_pre ws th) (hp.trans hq.1.symm) ho hq.2
end Mine
end
section
open PySem PySem.W PySem.Calls PyProof.Rows
set_option Elab.async false
set_option linter.unusedVariables false
namespace Mine
noncomputable def kindCh (x : Int) : Str := if x.fdiv 4096 = 10 then Str.ofString "l" else if x.fdiv 4096 = 12 then Str.ofString "s" else if x.fdiv 4096 = 8 then Str.ofString "-" else if x.fdiv 4096 = 6 then Str.ofString "b" else if x.fdiv 4096 = 4 then Str.ofString "d" else if x.fdiv 4096 = 2 then Str.ofString "c" else if x.fdiv 4096 = 1 then Str.ofString "p" else Str.ofString "?"
theorem len_ite {c : Prop} [Decidable c] {a b : Str} {n : Nat} (h1 : a.length ≤ n) (h2 : b.length ≤ n) : (if c then a else b).length ≤ n := by
  by_cases h : c
  · rw [if_pos h]; exact h1
  · rw [if_neg h]; exact h2
theorem len_kindCh (x : Int) : (kindCh x).length ≤ 1 := by
  unfold kindCh
  exact len_ite (Nat.le_of_eq rfl) (len_ite (Nat.le_of_eq rfl) (len_ite (Nat.le_of_eq rfl) (len_ite (Nat.le_of_eq rfl) (len_ite (Nat.le_of_eq rfl) (len_ite (Nat.le_of_eq rfl) (len_ite (Nat.le_of_eq rfl) (Nat.le_of_eq rfl)))))))
noncomputable def tx1 (T : Str) (th : Int) : Str := T ++ (if 3 < th then Str.ofString "r" else Str.ofString "-") ++ (if (th.fdiv 2).fmod 2 = 1 then Str.ofString "w" else Str.ofString "-")
noncomputable def tx2 (T : Str) (th b : Int) (lst : Str) : Str := T ++ (if b = 1 then lst else if th.fmod 2 = 1 then Str.ofString "x" else Str.ofString "-")
noncomputable def lstS (th : Int) (lo up : Str) : Str := if th.fmod 2 = 1 then lo else up
theorem len_app (a b : Str) : (a ++ b).length = a.length + b.length := by
  show (a.cps ++ b.cps).size = _
  rw [Array.size_append]
  rfl
theorem len_tx1 (T : Str) (th : Int) : (tx1 T th).length ≤ T.length + 2 := by
  unfold tx1
  rw [len_app, len_app]
  have h1 : (if 3 < th then Str.ofString "r" else Str.ofString "-").length ≤ 1 := len_ite (Nat.le_of_eq rfl) (Nat.le_of_eq rfl)
  have h2 : (if (th.fdiv 2).fmod 2 = 1 then Str.ofString "w" else Str.ofString "-").length ≤ 1 := len_ite (Nat.le_of_eq rfl) (Nat.le_of_eq rfl)
  omega
theorem len_lst (th : Int) (lo up : Str) (h1 : lo.length = 1) (h2 : up.length = 1) : (lstS th lo up).length ≤ 1 := len_ite (Nat.le_of_eq h1) (Nat.le_of_eq h2)
theorem len_tx2 (T : Str) (th b : Int) (lst : Str) (h1 : lst.length ≤ 1) : (tx2 T th b lst).length ≤ T.length + 1 := by
  unfold tx2
  rw [len_app]
  have h3 : (if b = 1 then lst else if th.fmod 2 = 1 then Str.ofString "x" else Str.ofString "-").length ≤ 1 := len_ite h1 (len_ite (Nat.le_of_eq rfl) (Nat.le_of_eq rfl))
  omega
noncomputable def sg1 (x : Int) : Str := tx2 (tx1 (kindCh x) ((x.fdiv 64).fmod 8)) ((x.fdiv 64).fmod 8) (((x.fdiv 512).fdiv 4).fmod 2) (lstS ((x.fdiv 64).fmod 8) (Str.ofString "s") (Str.ofString "S"))
noncomputable def sg2 (x : Int) : Str := tx2 (tx1 (sg1 x) ((x.fdiv 8).fmod 8)) ((x.fdiv 8).fmod 8) (((x.fdiv 512).fdiv 2).fmod 2) (lstS ((x.fdiv 8).fmod 8) (Str.ofString "s") (Str.ofString "S"))
noncomputable def sgText (x : Int) : Str := tx2 (tx1 (sg2 x) ((x.fdiv 1).fmod 8)) ((x.fdiv 1).fmod 8) (((x.fdiv 512).fdiv 1).fmod 2) (lstS ((x.fdiv 1).fmod 8) (Str.ofString "t") (Str.ofString "T"))
end Mine
end
section
open PySem PySem.W PySem.Calls PyProof.Rows
set_option Elab.async false
set_option maxRecDepth 100000
set_option maxHeartbeats 8000000
set_option linter.unusedVariables false
namespace Mine
theorem bA (n m : Nat) : Builtin.bitAnd (n : Int) (m : Int) = ((n &&& m : Nat) : Int) := by
  unfold Builtin.bitAnd
  have h1 : decide (0 ≤ (n : Int)) = true := by simp
  have h2 : decide (0 ≤ (m : Int)) = true := by simp
  rw [h1, h2]
  simp
theorem and_lo (n : Nat) : n &&& 4095 = n % 4096 := Nat.and_two_pow_sub_one_eq_mod n 12
theorem and_hi {n : Nat} (h : n < 65536) : n &&& 61440 = n / 4096 * 4096 := by
  have h1 : (n &&& 61440) / 2 ^ 12 = n / 2 ^ 12 &&& 61440 / 2 ^ 12 := Nat.and_div_two_pow
  have h2 : (n &&& 61440) % 2 ^ 12 = n % 2 ^ 12 &&& 61440 % 2 ^ 12 := Nat.and_mod_two_pow
  have h3 : n / 2 ^ 12 &&& (2 ^ 4 - 1) = n / 2 ^ 12 % 2 ^ 4 := Nat.and_two_pow_sub_one_eq_mod _ 4
  simp only [Nat.reducePow, Nat.reduceDiv, Nat.reduceMod, Nat.reduceSub, Nat.and_zero] at h1 h2 h3
  rw [h3] at h1
  lia
theorem and_bit (n k : Nat) : n &&& 2 ^ k = n / 2 ^ k % 2 * 2 ^ k := by
  have h1 : (n &&& 2 ^ k) / 2 ^ k = n / 2 ^ k &&& 2 ^ k / 2 ^ k := Nat.and_div_two_pow
  have h2 : (n &&& 2 ^ k) % 2 ^ k = n % 2 ^ k &&& 2 ^ k % 2 ^ k := Nat.and_mod_two_pow
  rw [Nat.div_self (Nat.two_pow_pos k), Nat.and_one_is_mod] at h1
  rw [Nat.mod_self, Nat.and_zero] at h2
  have := Nat.div_add_mod (n &&& 2 ^ k) (2 ^ k)
  rw [h1, h2] at this
  rw [← this, Nat.add_zero, Nat.mul_comm]
theorem b1 (n k m : Nat) (hm : m = 2 ^ k) : (Builtin.bitAnd (n : Int) (m : Int) = (m : Int)) ↔ n / m % 2 = 1 := by
  subst hm
  rw [bA, and_bit]
  have h := Nat.two_pow_pos k
  have : n / 2 ^ k % 2 < 2 := Nat.mod_lt _ (by decide)
  constructor
  · intro e
    have e' : n / 2 ^ k % 2 * 2 ^ k = 2 ^ k := by exact_mod_cast e
    by_cases q : n / 2 ^ k % 2 = 1
    · exact q
    · have : n / 2 ^ k % 2 = 0 := by lia
      rw [this] at e'; lia
  · intro e; rw [e, Nat.one_mul]
theorem b2 (n k j m : Nat) (a b : Nat) (ha : a = 2 ^ k) (hb : b = 2 ^ j) (hm : m = a ||| b) (hne : m ≠ 0 ∧ m ≠ a ∧ m ≠ b) : (Builtin.bitAnd (n : Int) (m : Int) = (m : Int)) ↔ (n / a % 2 = 1 ∧ n / b % 2 = 1) := by
  rw [bA, hm, Nat.and_or_distrib_left]
  rw [ha, and_bit, ← ha, hb, and_bit, ← hb, ← hm]
  have h1 : n / a % 2 < 2 := Nat.mod_lt _ (by decide)
  have h2 : n / b % 2 < 2 := Nat.mod_lt _ (by decide)
  by_cases q : n / a % 2 = 1
  · by_cases q' : n / b % 2 = 1
    · simp [q, q', hm]
    · have q0 : n / b % 2 = 0 := by lia
      simp only [q, q0, Nat.one_mul, Nat.zero_mul, Nat.or_zero]
      constructor
      · intro e; have e' : a = m := by exact_mod_cast e
        exact absurd e'.symm hne.2.1
      · intro e; exact absurd e.2 (by decide)
  · have q0 : n / a % 2 = 0 := by lia
    by_cases q' : n / b % 2 = 1
    · simp only [q', q0, Nat.one_mul, Nat.zero_mul, Nat.zero_or]
      constructor
      · intro e; have e' : b = m := by exact_mod_cast e
        exact absurd e'.symm hne.2.2
      · intro e; exact absurd e.1 (by decide)
    · have q1 : n / b % 2 = 0 := by lia
      simp only [q1, q0, Nat.zero_mul, Nat.or_zero]
      constructor
      · intro e; have e' : 0 = m := by exact_mod_cast e
        exact absurd e'.symm hne.1
      · intro e; exact absurd e.1 (by decide)
end Mine
end
section
open PySem PySem.W PySem.Calls PyProof.Rows
set_option Elab.async false
set_option maxRecDepth 100000
set_option maxHeartbeats 8000000
set_option linter.unusedVariables false
namespace Mine
theorem fd (n m : Nat) : (n : Int).fdiv (m : Int) = ((n / m : Nat) : Int) := by
  rw [Int.fdiv_eq_ediv_of_nonneg _ (Int.natCast_nonneg m)]; rfl
theorem fmd (n m : Nat) : (n : Int).fmod (m : Int) = ((n % m : Nat) : Int) := by
  rw [Int.fmod_eq_emod_of_nonneg _ (Int.natCast_nonneg m)]; rfl
theorem ch1 (n i k m : Nat) (c : Str) (hi : i ≠ 0) (ht : tblD i = [((m : Int), c)]) (hm : m = 2 ^ k) : fmChar (n : Int) i = if n / m % 2 = 1 then c else Str.ofString "-" := by
  unfold fmChar
  rw [ht, List.find?_cons]
  unfold fmC
  rw [if_neg hi]
  by_cases h : n / m % 2 = 1
  · rw [decide_eq_true ((b1 n k m hm).mpr h), if_pos h]
  · rw [decide_eq_false (fun q => h ((b1 n k m hm).mp q)), if_neg h, List.find?_nil]
    exact if_neg hi
theorem ch3 (n i k j a b m : Nat) (c c' c'' : Str) (hi : i ≠ 0) (ht : tblD i = [((m : Int), c), ((a : Int), c'), ((b : Int), c'')]) (ha : a = 2 ^ k) (hb : b = 2 ^ j) (hm : m = a ||| b) (hne : m ≠ 0 ∧ m ≠ a ∧ m ≠ b) :
    fmChar (n : Int) i = if n / a % 2 = 1 then (if n / b % 2 = 1 then c else c') else if n / b % 2 = 1 then c'' else Str.ofString "-" := by
  unfold fmChar
  rw [ht, List.find?_cons]
  unfold fmC
  rw [if_neg hi]
  by_cases h : n / a % 2 = 1
  · by_cases h' : n / b % 2 = 1
    · rw [decide_eq_true ((b2 n k j m a b ha hb hm hne).mpr ⟨h, h'⟩), if_pos h, if_pos h']
    · rw [decide_eq_false (fun q => h' ((b2 n k j m a b ha hb hm hne).mp q).2), if_pos h, if_neg h', List.find?_cons]
      rw [if_neg hi, decide_eq_true ((b1 n k a ha).mpr h)]
  · rw [decide_eq_false (fun q => h ((b2 n k j m a b ha hb hm hne).mp q).1), if_neg h, List.find?_cons]
    rw [if_neg hi, decide_eq_false (fun q => h ((b1 n k a ha).mp q)), List.find?_cons]
    by_cases h' : n / b % 2 = 1
    · rw [if_neg hi, decide_eq_true ((b1 n j b hb).mpr h'), if_pos h']
    · rw [if_neg hi, decide_eq_false (fun q => h' ((b1 n j b hb).mp q)), if_neg h', List.find?_nil]
      exact if_neg hi
theorem ch0 {n : Nat} (h : n < 65536) : fmChar (n : Int) 0 = kindCh (n : Int) := by
  unfold fmChar kindCh fmC
  have e : Builtin.bitAnd (n : Int) 61440 = ((n / 4096 * 4096 : Nat) : Int) := by
    rw [← and_hi h]; exact bA n 61440
  have f : (n : Int).fdiv 4096 = ((n / 4096 : Nat) : Int) := fd n 4096
  rw [f]
  simp only [if_true, e]
  have hq : n / 4096 < 16 := by lia
  generalize n / 4096 = q at hq
  obtain ⟨q', rfl⟩ : ∃ q' : Fin 16, q'.val = q := ⟨⟨q, hq⟩, rfl⟩
  clear hq
  revert q'
  decide +kernel
theorem join10 {a b c d e f g h i j : Str} : Txt.join (Str.ofString "") [a,b,c,d,e,f,g,h,i,j] = a ++ b ++ c ++ d ++ e ++ f ++ g ++ h ++ i ++ j := by
  show Builtin.Str.glued (Str.ofString "") [a,b,c,d,e,f,g,h,i,j] = _
  unfold Builtin.Str.glued
  have e0 : (Str.ofString "").cps = #[] := rfl
  simp only [e0, List.drop_succ_cons, List.drop_zero, List.headD_cons, List.foldl_cons, List.foldl_nil, Array.append_empty]
  rfl
/-- filemode writes what the signs tell -/
theorem text_eq {n : Nat} (h : n < 65536) : fmText (n : Int) = sgText (n : Int) := by
  unfold fmText
  have r : List.range 10 = [0, 1, 2, 3, 4, 5, 6, 7, 8, 9] := rfl
  rw [r]
  simp only [List.map_cons, List.map_nil]
  rw [join10, ch0 h, ch1 n 1 8 256 _ (by decide) rfl rfl, ch1 n 2 7 128 _ (by decide) rfl rfl, ch3 n 3 11 6 2048 64 2112 _ _ _ (by decide) rfl rfl rfl rfl (by decide),
    ch1 n 4 5 32 _ (by decide) rfl rfl, ch1 n 5 4 16 _ (by decide) rfl rfl, ch3 n 6 10 3 1024 8 1032 _ _ _ (by decide) rfl rfl rfl rfl (by decide),
    ch1 n 7 2 4 _ (by decide) rfl rfl, ch1 n 8 1 2 _ (by decide) rfl rfl, ch3 n 9 9 0 512 1 513 _ _ _ (by decide) rfl rfl rfl rfl (by decide)]
  unfold sgText sg2 sg1 tx2 tx1 lstS
  have f64 : ((n : Int).fdiv 64).fmod 8 = ((n / 64 % 8 : Nat) : Int) := by rw [show ((64 : Int)) = ((64 : Nat) : Int) from rfl, fd]; exact fmd _ 8
  have f8 : ((n : Int).fdiv 8).fmod 8 = ((n / 8 % 8 : Nat) : Int) := by rw [show ((n : Int).fdiv 8) = ((n / 8 : Nat) : Int) from fd n 8]; exact fmd _ 8
  have f1 : ((n : Int).fdiv 1).fmod 8 = ((n / 1 % 8 : Nat) : Int) := by rw [show ((n : Int).fdiv 1) = ((n / 1 : Nat) : Int) from fd n 1]; exact fmd _ 8
  have g : ∀ m : Nat, (((n : Int).fdiv 512).fdiv (m : Int)).fmod 2 = ((n / 512 / m % 2 : Nat) : Int) := by
    intro m
    rw [show ((n : Int).fdiv 512) = ((n / 512 : Nat) : Int) from fd n 512, fd]; exact fmd _ 2
  have g4 : (((n : Int).fdiv 512).fdiv 4).fmod 2 = ((n / 512 / 4 % 2 : Nat) : Int) := g 4
  have g2 : (((n : Int).fdiv 512).fdiv 2).fmod 2 = ((n / 512 / 2 % 2 : Nat) : Int) := g 2
  have g1 : (((n : Int).fdiv 512).fdiv 1).fmod 2 = ((n / 512 / 1 % 2 : Nat) : Int) := g 1
  rw [f64, f8, f1, g4, g2, g1]
  have cg : ∀ {p q : Prop} [Decidable p] [Decidable q] {a b a' b' : Str}, (p ↔ q) → a = a' → b = b' → (if p then a else b) = if q then a' else b' := by
    intro p q _ _ a b a' b' e h1 h2
    subst h1 h2
    by_cases z : p
    · rw [if_pos z, if_pos (e.mp z)]
    · rw [if_neg z, if_neg (fun y => z (e.mpr y))]
  have m2 : ∀ k : Nat, ((k : Int)).fmod 2 = ((k % 2 : Nat) : Int) := fun k => fmd k 2
  have d2 : ∀ k : Nat, (((k : Int)).fdiv 2).fmod 2 = ((k / 2 % 2 : Nat) : Int) := fun k => by rw [show ((k : Int).fdiv 2) = ((k / 2 : Nat) : Int) from fd k 2]; exact fmd _ 2
  simp only [m2, d2]
  have ap : ∀ {a b c d : Str}, a = b → c = d → a ++ c = b ++ d := by intro a b c d h1 h2; rw [h1, h2]
  refine ap (ap (ap (ap (ap (ap (ap (ap (ap rfl ?_) ?_) ?_) ?_) ?_) ?_) ?_) ?_) ?_
  · exact cg (by clear f64 f8 f1 g4 g2 g1; lia) rfl rfl
  · exact cg (by clear f64 f8 f1 g4 g2 g1; lia) rfl rfl
  · exact cg (by clear f64 f8 f1 g4 g2 g1; lia) (cg (by clear f64 f8 f1 g4 g2 g1; lia) rfl rfl) (cg (by clear f64 f8 f1 g4 g2 g1; lia) rfl rfl)
  · exact cg (by clear f64 f8 f1 g4 g2 g1; lia) rfl rfl
  · exact cg (by clear f64 f8 f1 g4 g2 g1; lia) rfl rfl
  · exact cg (by clear f64 f8 f1 g4 g2 g1; lia) (cg (by clear f64 f8 f1 g4 g2 g1; lia) rfl rfl) (cg (by clear f64 f8 f1 g4 g2 g1; lia) rfl rfl)
  · exact cg (by clear f64 f8 f1 g4 g2 g1; lia) rfl rfl
  · exact cg (by clear f64 f8 f1 g4 g2 g1; lia) rfl rfl
  · exact cg (by clear f64 f8 f1 g4 g2 g1; lia) (cg (by clear f64 f8 f1 g4 g2 g1; lia) rfl rfl) (cg (by clear f64 f8 f1 g4 g2 g1; lia) rfl rfl)
end Mine
end
section
open PySem PySem.W PySem.Calls PyProof.Rows
set_option Elab.async false
set_option maxRecDepth 100000
set_option maxHeartbeats 8000000
set_option linter.unusedVariables false
namespace Mine
/-- the four things told and the four things due are the same -/
theorem things_eq {x : Int} (h0 : 0 ≤ x) (h1 : x < 65536) : Builtin.bitAnd x 61440 = x.fdiv 4096 * 4096 ∧ Builtin.bitAnd x 4095 = x.fmod 4096 ∧ fmText x = sgText x := by
  obtain ⟨n, rfl⟩ := Int.eq_ofNat_of_zero_le h0
  have hn : n < 65536 := by lia
  refine ⟨?_, ?_, text_eq hn⟩
  · have e : Builtin.bitAnd (n : Int) 61440 = ((n &&& 61440 : Nat) : Int) := bA n 61440
    have f : (n : Int).fdiv 4096 = ((n / 4096 : Nat) : Int) := fd n 4096
    rw [e, f, and_hi hn]
    simp
  · have e : Builtin.bitAnd (n : Int) 4095 = ((n &&& 4095 : Nat) : Int) := bA n 4095
    have f : (n : Int).fmod 4096 = ((n % 4096 : Nat) : Int) := fmd n 4096
    rw [e, f, and_lo]
theorem turnZ_zero : ∀ (ws : List (Int × Bool)) (x y : Th), turnZ ws x y = 0 ↔ ∀ w ∈ ws, cmp4 x y w.1 = 0
  | [], x, y => by simp [turnZ, red]
  | w :: ws, x, y => by
    rw [turnZ_cons, List.forall_mem_cons, ← turnZ_zero ws x y]
    have e : ask1 x y w = 0 ↔ cmp4 x y w.1 = 0 := by
      unfold ask1
      cases w.2 <;> simp
    rw [← e]
    by_cases q : ask1 x y w = 0
    · rw [if_pos q]; exact ⟨fun a => ⟨q, a⟩, fun a => a.2⟩
    · rw [if_neg q]; exact ⟨fun a => absurd a q, fun a => a.1⟩
/-- the first of those like the last in order is the max -/
theorem last_max {th : Nat → Th} {ws : List (Int × Bool)} {p : List Nat} {n i l : Nat} (hp : p.Perm (List.range n)) (ho : p.Pairwise (TT (ltW th ws))) (hl : p.getLast? = some l) (hi : i < n) (ht : Top1 (ltW th ws) n i) :
    (p.filter fun k => decide (∀ w ∈ ws, cmp4 (th k) (th l) w.1 = 0)).head? = some i := by
  have C := turnZ_ok ws
  obtain ⟨p', rfl⟩ : ∃ p', p = p' ++ [l] := List.getLast?_eq_some_iff.mp hl
  have hln : l < n := by simpa using hp.mem_iff.mp (show l ∈ p' ++ [l] by simp)
  have him : i ∈ p' ++ [l] := hp.mem_iff.mpr (by simpa using hi)
  have hmax : turnZ ws (th i) (th l) = 0 := by
    have h1 := (ht l hln).1
    have h1' : ¬ turnZ ws (th i) (th l) < 0 := by simpa [ltW] using h1
    rcases List.mem_append.mp him with q | q
    · have := (List.pairwise_append.mp ho).2.2 i q l (by simp)
      have h2 := TT.le (sort_pre ws th) this
      have h2' : ¬ turnZ ws (th l) (th i) < 0 := by simpa [ltW] using h2
      have := C.anti (th i) (th l)
      lia
    · have : i = l := by simpa using q
      rw [this]
      have := C.anti (th l) (th l)
      lia
  generalize hf : (p' ++ [l]).filter (fun k => decide (∀ w ∈ ws, cmp4 (th k) (th l) w.1 = 0)) = f
  have hif : i ∈ f := by
    rw [← hf, List.mem_filter]
    exact ⟨him, by simpa using (turnZ_zero ws _ _).mp hmax⟩
  have hof : f.Pairwise (TT (ltW th ws)) := by rw [← hf]; exact ho.filter _
  match f, hf, hif, hof with
  | a :: f, hf, hif, hof =>
    have ha : a ∈ (p' ++ [l]).filter (fun k => decide (∀ w ∈ ws, cmp4 (th k) (th l) w.1 = 0)) := by rw [hf]; simp
    obtain ⟨_, ha2⟩ := List.mem_filter.mp ha
    have hal : turnZ ws (th a) (th l) = 0 := (turnZ_zero ws _ _).mpr (by simpa using ha2)
    rcases List.mem_cons.mp hif with q | q
    · rw [q]; rfl
    · exfalso
      have t := (List.pairwise_cons.mp hof).1 i q
      have hai : turnZ ws (th a) (th i) = 0 := by
        have h1 := C.anti (th i) (th l)
        exact (C.zero hal).mpr (by lia)
      have han : a < n := by simpa using hp.mem_iff.mp (List.mem_filter.mp ha).1
      rcases t with t | ⟨_, t⟩
      · simp [ltW, hai] at t
      · have := (ht a han).2 t
        simp [ltW, hai] at this
end Mine
end
section
open PySem PySem.W PySem.Calls PyProof.Rows
set_option Elab.async false
set_option maxRecDepth 100000
set_option maxHeartbeats 8000000
set_option linter.unusedVariables false
namespace Mine
theorem cmpI_sign (x y : Int) : cmpI x y = if y < x then 1 else if x < y then -1 else 0 := by
  unfold cmpI
  simp only [b2i_cases, decide_eq_true_eq]
  split <;> split <;> lia
theorem cmpS_sign (x y : Str) : cmpS x y = if y.cps.toList < x.cps.toList then 1 else if x.cps.toList < y.cps.toList then -1 else 0 := by
  unfold cmpS
  simp only [b2i_cases, decide_eq_true_eq]
  by_cases h : y.cps.toList < x.cps.toList
  · have := List.lt_asymm h
    simp [h, this]
  · simp only [h, if_false]
    split <;> lia
theorem cmpI_eq (x y : Int) : cmpI x y = 0 ↔ x = y := by
  rw [cmpI_sign]
  split
  · simp; lia
  · split
    · simp; lia
    · simp; lia
theorem cmpS_eq (x y : Str) : cmpS x y = 0 ↔ x = y := by
  rw [cmpS_sign]
  constructor
  · intro h
    by_cases h1 : y.cps.toList < x.cps.toList
    · simp [h1] at h
    · by_cases h2 : x.cps.toList < y.cps.toList
      · simp [h1, h2] at h
      · have e : x.cps.toList = y.cps.toList := List.le_antisymm h1 h2
        cases x; cases y
        simp only at e
        exact congrArg _ (Array.toList_inj.mp e)
  · intro h; subst h
    have : ¬ x.cps.toList < x.cps.toList := List.lt_irrefl _
    simp [this]
/-- the signs that the law tells of two files -/
noncomputable def sign4 (x y : Th) : List Int := [cmpI x.k0 y.k0, cmpI x.k1 y.k1, cmpS x.tx y.tx, cmpI x.sz y.sz]
end Mine
end
section
open PySem PySem.W PySem.Calls PyProof.Rows
set_option Elab.async false
set_option maxRecDepth 100000
set_option maxHeartbeats 8000000
set_option linter.unusedVariables false
namespace Mine
/-- nothing but the three code tables is changed -/
noncomputable def Ext3 (h h' : Heap) : Prop := ∀ b o, b ≠ 23 → b ≠ 100 → b ≠ 124 → h.get? b = some o → h'.get? b = some o
theorem Ext3.refl (h : Heap) : Ext3 h h := fun _ _ _ _ _ e => e
theorem Ext3.trans {a b c : Heap} (x : Ext3 a b) (y : Ext3 b c) : Ext3 a c := fun p o n m l e => y p o n m l (x p o n m l e)
theorem Ext1.to3 {a b : Heap} (x : Ext1 a b) : Ext3 a b := fun p o _ m _ e => x p o m e
noncomputable abbrev g3 (h : Heap) : Heap := hideAll h [23, 100, 124]
theorem g3_ne {h : Heap} {b : Addr} {o : Obj} (e : h.get? b = some o) (h1 : b ≠ 23) (h2 : b ≠ 100) (h3 : b ≠ 124) : (g3 h).get? b = some o := hideAll_get _ e (by simp [h1, h2, h3])
theorem of_g3 {h : Heap} {b : Addr} {o : Obj} (e : (g3 h).get? b = some o) : h.get? b = some o ∧ b ≠ 23 ∧ b ≠ 100 ∧ b ≠ 124 := by
  refine ⟨of_hideAll _ e, ?_, ?_, ?_⟩ <;> intro q <;> rw [q, hideAll_none _ (by simp)] at e <;> cases e
structure Wd3 (w : World) (loose : List Str) (mean : ExcName → Option Value) (mg mb : Str → Option Value) (h : Heap) : Prop where
  X : (kfr w.params).In (g3 h)
  T : Top topProg loose mean mg mb (g3 h)
  tab : Tab h
section
variable {w : World} {loose : List Str} {mean : ExcName → Option Value} {mg mb : Str → Option Value} {h h' : Heap}
end
end Mine
end
section
open PySem PySem.W PySem.Calls PyProof.Rows
set_option Elab.async false
set_option maxRecDepth 100000
set_option maxHeartbeats 8000000
set_option linter.unusedVariables false
namespace Mine
section
variable {w : World} {loose : List Str} {mean : ExcName → Option Value} {mg mb : Str → Option Value} {A : Around} {s : Shared} {Q E : Value → Shared → Prop}
/-- enter the law: the tables 23, 100 and 124 stand in the ledger -/
theorem enter3 {name qual : Str} {params : Arguments} {body : List Stmt} {a : Stmt} {l : List Stmt} {scope : Scope} {dV kV doc pm cdv ct : Value} {an : Option Addr} {fo : Obj} {f : Addr} {args : List Value} {binds : List (Str × Value)} {n : Nat} {o23 o124 : Obj}
    (W : Wd3 w loose mean mg mb s.heap) (h23 : s.heap.get? 23 = some o23) (h124 : s.heap.get? 124 = some o124) (r : Rm A (n + 1)) (ho : (g3 s.heap).get? f = some fo) (hd : fo.data = .func (fnX name qual params body scope [] dV kV doc pm an cdv ct)) (hcd : (g3 s.heap).CodeRec cdv qual)
    (hbind : BindsTo s (fnX name qual params body scope [] dV kV doc pm an cdv ct) ⟨args, []⟩ binds)
    (hkind : (binds.all fun y => scope.names.lookup y.1 == some .local || scope.names.lookup y.1 == some .cell) = true)
    (hnd : ((cellsFrom 0 scope.names []).map (·.1)).Nodup)
    (h : ∀ ps L h₁ tk cells, L = s.heap.objs.size → TabV s.heap ps → s.heap.get? 100 = some (tabObj ps) → (124 : Nat) < L → Rm (A.deeper (envOfC qual scope L f cdv)) n → (∀ b o, s.heap.get? b = some o → h₁.get? b = some o) →
      Fr (g3 s.heap) L h₁ (bindL (envOfC qual scope L f cdv).kindOf binds fun _ => none) → News (g3 s.heap) L h₁ (cells ++ [(23, o23), (100, tabObj ps), (124, o124)]) → CellsAre (bindC (envOfC qual scope L f cdv).kindOf binds fun _ => none) (cellsFrom (L + 1) scope.names []) cells →
      wpAny (model PR w) (A.deeper (envOfC qual scope L f cdv)) (execs (a :: l) (envOfC qual scope L f cdv)) (fun fl s' => Q (retv fl) s') (fun _ _ => False) { s with heap := h₁, toks := tk })
    (hb : body = a :: l := by rfl) (hco : scope.isCoroutine = false := by rfl) (hgen : scope.isGenerator = false := by rfl) (hk : scope.kind = .function := by rfl) :
    wpAny (model PR w) A (call (.ref f) args) Q E s := by
  subst hb
  obtain ⟨ps, h100, V⟩ := W.tab
  have hcd' : s.heap.CodeRec cdv qual := by
    obtain ⟨c, oc, vs, tq, hc, hoc, hr⟩ := hcd
    exact ⟨c, oc, vs, tq, hc, (of_g3 hoc).1, hr⟩
  refine wpAny_call (codeAny_call_function r.depth (of_g3 ho).1 hd hco hgen rfl hcd' (hbind _ _ _ _ ?_))
  refine wpAny_newFunctionEnv_cells hk (kindsX hkind _) fun env' he s' x => ?_
  subst he
  refine ⟨(W.T.nolimit.keeps fun b o e => (of_g3 e).1).keeps x.toInCall.keep, codeAny_func ?_⟩
  obtain ⟨h₁, tk, rfl, _⟩ := x.done
  have hk₁ := x.toInCall.keep
  obtain ⟨cells, NC, Y⟩ := Cl.news (h₀ := s.heap) (Nat.le_refl _) fun n c hm => ⟨x.cell n c (lookup_of_mem_nodup (cellsFrom_names scope.names 0 (s.heap.objs.size + 1) [] [] rfl ▸ hnd) hm), x.above n c hm⟩
  refine wpAny_mono (h ps s.heap.objs.size h₁ tk cells rfl V h100 (Heap.lt_size h124) (r.deeper _) hk₁ ⟨x.toInCall.ns, fun b o e => hk₁ b o (of_g3 e).1, Nat.le_of_eq (hideAll_size _ _)⟩ (fun p hp => ?_) Y) (fun fl s' hl => ?_) fun _ _ y => y.elim
  · rcases List.mem_append.mp hp with hp | hp
    · refine ⟨(NC p hp).1, (NC p hp).2.1, ?_⟩
      cases q : (g3 s.heap).get? p.1 with
      | none => rfl
      | some o => have := (of_g3 q).1; rw [(NC p hp).2.2] at this; cases this
    · simp only [List.mem_cons, List.not_mem_nil, or_false] at hp
      rcases hp with rfl | rfl | rfl
      · exact ⟨hk₁ _ _ h23, Nat.ne_of_lt (Heap.lt_size h23), hideAll_none _ (by simp)⟩
      · exact ⟨hk₁ _ _ h100, Nat.ne_of_lt (Heap.lt_size h100), hideAll_none _ (by simp)⟩
      · exact ⟨hk₁ _ _ h124, Nat.ne_of_lt (Heap.lt_size h124), hideAll_none _ (by simp)⟩
  · cases fl <;> exact hl
end
end Mine
end
section
open PySem PySem.W PySem.Calls PyProof.Rows
set_option Elab.async false
set_option maxRecDepth 100000
set_option maxHeartbeats 8000000
set_option linter.unusedVariables false
namespace Mine
/-- all stands but what av lists -/
noncomputable def Kp (av : List Addr) (h h' : Heap) : Prop := ∀ b o, b ∉ av → h.get? b = some o → h'.get? b = some o
theorem Kp.refl (av : List Addr) (h : Heap) : Kp av h h := fun _ _ _ e => e
theorem Kp.trans {av : List Addr} {a b c : Heap} (x : Kp av a b) (y : Kp av b c) : Kp av a c := fun p o n e => y p o n (x p o n e)
theorem Kp.mono {av av' : List Addr} {a b : Heap} (x : Kp av a b) (h : ∀ p ∈ av, p ∈ av') : Kp av' a b := fun p o n e => x p o (fun q => n (h p q)) e
theorem Kp.all {av : List Addr} {a b : Heap} (x : ∀ p o, a.get? p = some o → b.get? p = some o) : Kp av a b := fun p o _ e => x p o e
theorem Kp.one {av : List Addr} {c : Addr} {a b : Heap} (x : Heap.SameBut c a b) (hc : c ∈ av) : Kp av a b := fun p o n e => (x.2 p (fun q => n (q ▸ hc))).trans e
/-- the heap without av -/
theorem hide_get {av : List Addr} {h : Heap} {b : Addr} {o : Obj} : (hideAll h av).get? b = some o ↔ h.get? b = some o ∧ b ∉ av := by
  refine ⟨fun e => ⟨of_hideAll _ e, fun q => ?_⟩, fun e => hideAll_get _ e.1 e.2⟩
  rw [hideAll_none _ q] at e
  cases e
theorem Kp.hide {av : List Addr} {h h' : Heap} (x : Kp av h h') : ∀ b o, (hideAll h av).get? b = some o → (hideAll h' av).get? b = some o := fun b o e =>
  let ⟨e1, n⟩ := hide_get.mp e
  hide_get.mpr ⟨x b o n e1, n⟩
noncomputable abbrev Below (g h : Heap) : Prop := ∀ b o, g.get? b = some o → h.get? b = some o
theorem Below.refl (h : Heap) : Below h h := fun _ _ e => e
theorem Below.trans {a b c : Heap} (x : Below a b) (y : Below b c) : Below a c := fun p o e => y p o (x p o e)
theorem hide_below (h : Heap) (av : List Addr) : Below (hideAll h av) h := fun _ _ e => of_hideAll _ e
/-- k cells laid -/
noncomputable def pushK : Nat → Heap → Heap
  | 0, h => h
  | k + 1, h => pushK k (h.push { cls := .type "cell", data := .cell none })
noncomputable def cellsK (k : Nat) (C : Addr) : List Addr := (List.range k).map fun i => C + 1 + i
theorem pushK_keeps : ∀ (k : Nat) (h : Heap), Below h (pushK k h)
  | 0, _ => Below.refl _
  | k + 1, h => fun b o e => pushK_keeps k _ b o (Heap.get?_push_of_some _ e)
theorem pushK_cell : ∀ (k : Nat) (h : Heap) (i : Nat), i < k → (pushK k h).IsCell (h.objs.size + i) none
  | k + 1, h, 0, _ => ⟨_, pushK_keeps k _ _ _ (Heap.get?_push_size _ rfl), rfl⟩
  | k + 1, h, i + 1, hi => by
    have := pushK_cell k (h.push { cls := .type "cell", data := .cell none }) i (by exact fk1 1 1 (.a (.v 0) (.n 1)) (.v 1) (.a (.a (.v 0) (.n 1)) (.n 1)) (.a (.v 1) (.n 1)) rfl [_, _] hi)
    rw [Heap.size_push] at this
    rw [show h.objs.size + (i + 1) = h.objs.size + 1 + i by exact Nat.le_antisymm (fk0 1 (.a (.v 0) (.a (.v 1) (.n 1))) (.a (.a (.v 0) (.n 1)) (.v 1)) rfl [_, _]) (fk0 1 (.a (.a (.v 0) (.n 1)) (.v 1)) (.a (.v 0) (.a (.v 1) (.n 1))) rfl [_, _])]
    exact this
section
variable {M : Model} {A : Around} {E : Value → Shared → Prop} {s : Shared}
theorem newEnvK {scope : Scope} {globals : Addr} {cl : List (Str × Addr)} {qual : Str} {func : Option Addr} {code : Value} {env : Env} {builtins : Addr} {k : Nat} {Q : Env → Shared → Prop} (hpc : ∀ h, pushCells h scope.names = pushK k h)
    (hQ : ∀ h', h'.Ns s.heap.objs.size (fun _ => none) → Below s.heap h' → (∀ a ∈ cellsK k s.heap.objs.size, h'.IsCell a none) →
      Q (newEnv scope s.heap.objs.size globals (cellsFrom (s.heap.objs.size + 1) scope.names cl) qual func code (some env) builtins) { s with heap := h' }) :
    wpAny M A (newFunctionEnv scope globals cl [] qual func code (some env) builtins) Q E s := by
  simp only [newFunctionEnv, Option.isSome_some, if_true]
  refine wpAny_bind (wpAny_alloc ?_)
  refine wpAny_bind (wpAny_layCells _ (fun name kind cells => by cases hkc : kind == NameKind.cell <;> simp) _ _ _ _ ?_)
  rw [show ({ s with heap := s.heap.push { cls := .type "dict", data := .dict #[] } } : Shared).heap.objs.size = s.heap.objs.size + 1 from Heap.size_push ..]
  simp only [List.forIn_nil]
  refine wpAny_bind (wpAny_pure (wpAny_pure ?_))
  rw [hpc]
  refine hQ _ ((Heap.Ns.new s.heap (.type "dict")).keeps (pushK_keeps _ _)) (fun b o e => pushK_keeps _ _ b o (Heap.get?_push_of_some _ e)) fun a ha => ?_
  obtain ⟨i, hi, rfl⟩ := List.mem_map.mp ha
  have := pushK_cell k (s.heap.push { cls := .type "dict", data := .dict #[] }) i (List.mem_range.mp hi)
  rw [Heap.size_push] at this
  exact this
end
theorem cellsK_gt {k : Nat} {C a : Addr} (h : a ∈ cellsK k C) : C < a := by
  obtain ⟨i, _, rfl⟩ := List.mem_map.mp h
  exact Nat.lt_of_lt_of_le (Nat.lt_succ_self C) (Nat.le_add_right _ _)
/-- how a turn ends: all stands but the comprehension's own names -/
noncomputable def TurnK (s : Shared) (k : Nat) (C : Addr) (h : Heap) (K : Heap → Prop) (s' : Shared) : Prop := ∃ h' tk' m', s' = { s with heap := h', toks := tk' } ∧ Kp (C :: cellsK k C) h h' ∧ h'.Ns C m' ∧ (∀ a ∈ cellsK k C, ∃ v, h'.IsCell a v) ∧ K h'
section
variable {w : World} {A : Around} {E : Value → Shared → Prop} {s : Shared}
theorem blockH {elt target iter : Expr} {ifs : List Expr} {scope : Scope} {cl : List (Str × Addr)} {pos : Pos} {env : Env} {I : Addr} {fp wr : List Addr} {n k : Nat} {P Md : Nat → Value → Heap → Prop} {St : Nat → Heap → Prop} {RR : Value → Addr → Result → Shared → Prop}
    (J : List Addr → Nat → List Value → Heap → Prop) (W : KTurns PR w A target I fp wr n P Md St)
    (hself : ∀ (s : Shared) (Q : Value → Shared → Prop) (E : Value → Shared → Prop), St 0 s.heap → Q (.ref I) s → wpAny (model PR w) A (pyIter (.ref I)) Q E s)
    (hsz : n ≤ sizeLine) (hfp : ∀ b ∈ fp, b < s.heap.objs.size) (hst : St 0 s.heap) (hlive : ∀ i h, St i h → ∀ b ∈ wr, ∃ o, h.get? b = some o)
    (hpc : ∀ h, pushCells h scope.names = pushK k h)
    (hmono : ∀ av i ys h h', J av i ys h → Kp av h h' → J av i ys h')
    (h0 : ∀ av, J av 0 [] s.heap)
    (step : ∀ D C i ys v h tk m, i < n → P i v h → J (D :: C :: (cellsK k C ++ wr)) i ys h → Kp wr s.heap h → h.PlainList D ys.toArray → h.Ns C m → (∀ a ∈ cellsK k C, ∃ v, h.IsCell a v) →
      (∀ b ∈ D :: C :: (cellsK k C ++ wr), ∃ o, h.get? b = some o) → (∀ b ∈ D :: C :: cellsK k C, s.heap.get? b = none) → s.heap.objs.size ≤ C →
      wpAny (model PR w) A (assign target (compEnvC scope (cellsFrom (C + 1) scope.names cl) C env) v) (fun _ s₂ =>
          wpAny (model PR w) A (forIn ifs true fun c r => if r = true then do let ok ← isTrue c (compEnvC scope (cellsFrom (C + 1) scope.names cl) C env) (eval c (compEnvC scope (cellsFrom (C + 1) scope.names cl) C env)); pure (ForInStep.yield ok) else pure (ForInStep.yield r)) (fun ok s₃ =>
            if ok = true then wpAny (model PR w) A (eval elt (compEnvC scope (cellsFrom (C + 1) scope.names cl) C env)) (fun y s₄ => TurnK s k C h (J (D :: C :: (cellsK k C ++ wr)) (i + 1) (ys ++ [y])) s₄) (fun _ _ => False) s₃
            else TurnK s k C h (J (D :: C :: (cellsK k C ++ wr)) (i + 1) ys) s₃) (fun _ _ => False) s₂) (fun _ _ => False) { s with heap := h, toks := tk })
    (hfin : ∀ D C ys h tk m, J (D :: C :: (cellsK k C ++ wr)) n ys h → Kp wr s.heap h → h.PlainList D ys.toArray → h.Ns C m → (∀ b ∈ D :: C :: cellsK k C, s.heap.get? b = none) → D ≠ C → RR (.ref D) C (.ok .next) { s with heap := h, toks := tk }) :
    wpAny (model PR w) A (newList []) (fun acc s₃ => wpAny (model PR w) A (newFunctionEnv scope env.globals cl [] env.qual none .none (some env)) (fun cenv s₄ =>
      codeAny (model PR w) A (.compStart (.ListComp elt [⟨target, iter, ifs, 0⟩] scope pos) 0 (.ref I) acc { cenv with scope := relabel scope env }) (RR acc cenv.locals) s₄) E s₃) E s := by
  refine wpAny_newObj_type (newEnvK hpc fun h₁ hns₁ kp₁ cs₁ => ?_)
  dsimp only at hns₁ kp₁ cs₁ ⊢
  generalize hH2 : s.heap.push { cls := .type "list", dict := none, data := .seq ([] : List Value).toArray } = H2 at hns₁ kp₁ cs₁ ⊢
  have hC : H2.objs.size = s.heap.objs.size + 1 := by rw [← hH2, Heap.size_push]
  generalize hDe : s.heap.objs.size = D at *
  generalize hCe : H2.objs.size = C at *
  have DC : D ≠ C := by rw [hC]; exact Nat.ne_of_lt (Nat.lt_succ_self _)
  have DltC : D < C := by rw [hC]; exact Nat.lt_succ_self _
  have new : ∀ b, D ≤ b → s.heap.get? b = none := fun b hb => Heap.get?_none_of_le (by rw [hDe]; exact hb)
  have nw : ∀ b ∈ D :: C :: cellsK k C, D ≤ b := fun b hb => by
    rcases List.mem_cons.mp hb with rfl | hb
    · exact Nat.le_refl _
    rcases List.mem_cons.mp hb with rfl | hb
    · exact Nat.le_of_lt DltC
    · exact Nat.le_of_lt (Nat.lt_trans DltC (cellsK_gt hb))
  have none0 : ∀ b ∈ D :: C :: cellsK k C, s.heap.get? b = none := fun b hb => new b (nw b hb)
  have ffp : ∀ b ∈ D :: C :: cellsK k C, b ∉ fp := fun b hb hm => absurd (hfp b hm) (Nat.not_lt.mpr (nw b hb))
  have fD : D ∉ fp := ffp D (.head _)
  have fC : C ∉ fp := ffp C (.tail _ (.head _))
  have fO : ∀ b ∈ C :: cellsK k C, b ∉ fp := fun b hb => ffp b (.tail _ hb)
  have dO : D ∉ C :: cellsK k C := fun hm => by
    rcases List.mem_cons.mp hm with e | hm
    · exact DC e
    · exact absurd (Nat.lt_trans DltC (cellsK_gt hm)) (Nat.lt_irrefl _)
  have old : ∀ b o, s.heap.get? b = some o → h₁.get? b = some o := fun b o e => by
    refine kp₁ b o ?_
    rw [← hH2]
    exact Heap.get?_push_of_some _ e
  have hD1 : h₁.PlainList D ([] : List Value).toArray := by
    refine ⟨0, kp₁ D _ ?_⟩
    rw [← hH2, ← hDe]
    exact Heap.get?_push_size _ rfl
  have st1 : St 0 h₁ := W.frame 0 _ _ hst fun b hb o e => old b o e
  have loop : ∀ s₃ : Shared, s₃ = { s with heap := h₁ } →
      codeAny (model PR w) A (.compLoop (.ListComp elt [⟨target, iter, ifs, 0⟩] scope pos) 0 (.ref I) (.ref D) (compEnvC scope (cellsFrom (C + 1) scope.names cl) C env)) (RR (.ref D) C) s₃ := by
    rintro s₃ rfl
    refine loopG (fun k' s' => ∃ h' tk i ys m', s' = { s with heap := h', toks := tk } ∧ i ≤ n ∧ k' = n + 1 - i ∧ ys.length ≤ i ∧ St i h' ∧ Kp wr s.heap h' ∧ h'.PlainList D ys.toArray ∧ h'.Ns C m' ∧ (∀ a ∈ cellsK k C, ∃ v, h'.IsCell a v) ∧ J (D :: C :: (cellsK k C ++ wr)) i ys h') ?_ (n + 1)
      ⟨h₁, _, 0, [], _, rfl, Nat.zero_le _, rfl, Nat.le_refl _, st1, fun b o _ e => old b o e, hD1, hns₁, fun a ha => ⟨_, cs₁ a ha⟩, hmono _ _ _ _ _ (h0 _) fun b o _ e => old b o e⟩
    rintro k' s' ⟨h', tk, i, ys, m', rfl, hi, rfl, hyl, hst', kp', hD', hn', hc', hJ'⟩
    have wD : D ∉ wr := fun hm => fD (W.sub D hm)
    have wO : ∀ b ∈ C :: cellsK k C, b ∉ wr := fun b hb hm => fO b hb (W.sub b hm)
    have wC : C ∉ wr := wO C (.head _)
    by_cases hlt : i < n
    · refine W.item i _ _ _ hlt hst' fun v h₂ tk₂ hMd k₂ => ?_
      refine W.go i v _ _ _ hMd fun h₃ hP st₃ k₃ => ?_
      have k23 : Kp wr h' h₃ := fun b o hb e => k₃ b o hb (k₂ b o hb e)
      have nC3 : h₃.Ns C m' := hn'.at' fun o e => k23 _ _ wC e
      have cC3 : ∀ a ∈ cellsK k C, ∃ v, h₃.IsCell a v := fun a ha => let ⟨v, o, e, q⟩ := hc' a ha; ⟨v, o, k23 _ _ (wO a (.tail _ ha)) e, q⟩
      have hD3 : h₃.PlainList D ys.toArray := let ⟨z, e⟩ := hD'; ⟨z, k23 _ _ wD e⟩
      have lv : ∀ b ∈ D :: C :: (cellsK k C ++ wr), ∃ o, h₃.get? b = some o := fun b hb => by
        rcases List.mem_cons.mp hb with rfl | hb
        · obtain ⟨z, e⟩ := hD3; exact ⟨_, e⟩
        rcases List.mem_cons.mp hb with rfl | hb
        · obtain ⟨o, _, _, e, _⟩ := nC3; exact ⟨_, e⟩
        rcases List.mem_append.mp hb with hb | hb
        · obtain ⟨v, o, e, _⟩ := cC3 b hb; exact ⟨_, e⟩
        · exact hlive _ _ st₃ b hb
      have inO : ∀ b ∈ C :: cellsK k C, b ∈ D :: C :: (cellsK k C ++ wr) := fun b hb => by
        rcases List.mem_cons.mp hb with rfl | hb
        · simp
        · exact .tail _ (.tail _ (List.mem_append_left _ hb))
      refine wpAny_mono (step D C i ys v h₃ tk₂ m' hlt hP (hmono _ _ _ _ _ hJ' (k23.mono fun b hb => .tail _ (.tail _ (List.mem_append_right _ hb)))) (kp'.trans k23) hD3 nC3 cC3 lv none0 (Nat.le_of_lt DltC)) (fun _ s₄ h₄ => ?_) fun _ _ x => x.elim
      refine wpAny_mono h₄ (fun ok s₅ h₅ => ?_) fun _ _ x => x.elim
      cases ok with
      | true =>
        rw [if_pos rfl] at h₅ ⊢
        refine wpAny_mono h₅ (fun y s₆ h₆ => ?_) fun _ _ x => x.elim
        obtain ⟨h₇, tk₇, m₇, rfl, k₇, n₇, c₇, J₇⟩ := h₆
        have hD7 : h₇.PlainList D ys.toArray := let ⟨z, e⟩ := hD3; ⟨z, k₇ _ _ dO e⟩
        refine wpAny_list_append_plain (items := ys.toArray) hD7 (fun h₈ hpl s₈ => ?_) ?_
        · rw [List.push_toArray] at hpl
          have kp8 : ∀ b o, b ≠ D → h₇.get? b = some o → h₈.get? b = some o := fun b o hb e => (s₈.2 b hb).trans e
          refine ⟨n + 1 - (i + 1), by exact fk2 1 1 1 (.a (.v 0) (.n 1)) (.v 1) (.a (.v 2) (.n 1)) (.a (.v 1) (.v 3)) (.a (.v 0) (.a (.v 3) (.n 1))) (.a (.v 2) (.n 1)) rfl [_, _, _, _] (sb2 _ _) (sb3 (fk1 1 1 (.a (.v 0) (.n 1)) (.a (.v 1) (.n 1)) (.v 0) (.v 1) rfl [_, _] hi)), h₈, tk₇, i + 1, ys ++ [y], m₇, rfl, hlt, rfl, by rw [List.length_append]; exact Nat.succ_le_succ hyl, W.frame _ _ _ st₃ fun b hb o e => kp8 b o (fun q => fD (q ▸ hb)) (k₇ b o (fun q => fO b q hb) e), ?_, hpl, n₇.at' fun o e => kp8 _ _ DC.symm e,
            fun a ha => (let ⟨v, o, e, q⟩ := c₇ a ha; ⟨v, o, kp8 _ _ (fun q => dO (q ▸ .tail _ ha)) e, q⟩), hmono _ _ _ _ _ J₇ fun b o hb e => kp8 b o (fun q => hb (q ▸ .head _)) e⟩
          exact fun b o hb e => kp8 b o (fun q => by rw [q, none0 D (.head _)] at e; cases e) (k₇ b o (fun q => by rw [none0 b (.tail _ q)] at e; cases e) (k23 b o hb (kp' b o hb e)))
        · rw [List.size_toArray]
          exact Nat.le_trans (Nat.le_trans hyl hi) hsz
      | false =>
        rw [if_neg Bool.false_ne_true] at h₅ ⊢
        obtain ⟨h₇, tk₇, m₇, rfl, k₇, n₇, c₇, J₇⟩ := h₅
        refine ⟨n + 1 - (i + 1), by exact fk2 1 1 1 (.a (.v 0) (.n 1)) (.v 1) (.a (.v 2) (.n 1)) (.a (.v 1) (.v 3)) (.a (.v 0) (.a (.v 3) (.n 1))) (.a (.v 2) (.n 1)) rfl [_, _, _, _] (sb2 _ _) (sb3 (fk1 1 1 (.a (.v 0) (.n 1)) (.a (.v 1) (.n 1)) (.v 0) (.v 1) rfl [_, _] hi)), h₇, tk₇, i + 1, ys, m₇, rfl, hlt, rfl, Nat.le_succ_of_le hyl, W.frame _ _ _ st₃ fun b hb o e => k₇ b o (fun q => fO b q hb) e, ?_, let ⟨z, e⟩ := hD3; ⟨z, k₇ _ _ dO e⟩, n₇, c₇, J₇⟩
        exact fun b o hb e => k₇ b o (fun q => by rw [none0 b (.tail _ q)] at e; cases e) (k23 b o hb (kp' b o hb e))
    · have hin : i = n := by exact Nat.le_antisymm (fk1 1 1 (.v 0) (.v 1) (.v 0) (.v 1) rfl [_, _] hi) (fk1 1 1 (.v 0) (.v 1) (.v 0) (.v 1) rfl [_, _] (Nat.le_of_not_lt hlt))
      subst hin
      refine W.done _ _ _ hst' fun h₂ tk₂ k₂ => ?_
      exact hfin D C ys h₂ tk₂ m' (hmono _ _ _ _ _ hJ' fun b o hb e => k₂ b o (fun q => hb (.tail _ (.tail _ (List.mem_append_right _ q)))) e) (fun b o hb e => k₂ b o hb (kp' b o hb e)) (let ⟨z, e⟩ := hD'; ⟨z, k₂ _ _ wD e⟩) (hn'.at' fun o e => k₂ _ _ wC e) none0 DC
  exact codeAny_compStart_list (loop _ rfl) (hself _ _ _ st1 (loop _ rfl))
end
end Mine
end
section
open PySem PySem.W PySem.Calls PyProof.Rows
set_option Elab.async false
set_option maxRecDepth 100000
set_option maxHeartbeats 8000000
set_option linter.unusedVariables false
namespace Mine
noncomputable def lawDef : List Stmt × Scope := dfOf (PR.main.body.getD 36 (.Pass ⟨0, 0, 0, 0⟩))
noncomputable def lawS (i : Nat) : Stmt := lawDef.1.getD i (.Pass ⟨0, 0, 0, 0⟩)
noncomputable def lawE (L : Addr) : Env := envOfC (Str.ofString "law") lawDef.2 L 127 (.ref 126)
theorem law_parts : lawDef.1 = [lawS 0, lawS 1, lawS 2, lawS 3, lawS 4, lawS 5, lawS 6, lawS 7, lawS 8, lawS 9] := rfl
theorem lawE_told (L : Addr) : (lawE L).kindOf (Str.ofString "told") = some .local := rfl
theorem lawE_due (L : Addr) : (lawE L).cells.lookup (Str.ofString "due") = some (L + 1 + 1 + 1) := rfl
theorem lawE_wish (L : Addr) : (lawE L).cells.lookup (Str.ofString "wish") = some (L + 1 + 1 + 1 + 1) := rfl
theorem lawE_wishes (L : Addr) : (lawE L).cells.lookup (Str.ofString "wishes") = some (L + 1 + 1 + 1 + 1 + 1) := rfl
noncomputable abbrev vol (L : Addr) : List Addr := [23, 100, 124, L, L + 1, L + 1 + 1, L + 1 + 1 + 1, L + 1 + 1 + 1 + 1]
noncomputable abbrev fx (L : Addr) (h : Heap) : Heap := hideAll h (vol L)
/-- what changes while the law runs -/
structure LP where
  m : Str → Option Value
  c1 : Option Value
  c2 : Option Value
  c3 : Option Value
  c4 : Option Value
  o23 : Obj
  p124 : Array Value
structure LSt (w : World) (loose : List Str) (mean : ExcName → Option Value) (mg mb : Str → Option Value) (L : Addr) (q : LP) (h : Heap) : Prop where
  X : (kfr w.params).In (fx L h)
  T : Top topProg loose mean mg mb (fx L h)
  t100 : h.get? 100 = some (tabObj #[])
  lt : (124 : Nat) < L
  ns : h.Ns L q.m
  i1 : h.IsCell (L + 1) q.c1
  i2 : h.IsCell (L + 1 + 1) q.c2
  i3 : h.IsCell (L + 1 + 1 + 1) q.c3
  i4 : h.IsCell (L + 1 + 1 + 1 + 1) q.c4
  t23 : h.get? 23 = some q.o23
  t124 : h.get? 124 = some (tabObj q.p124)
theorem cell_at {h h' : Heap} {a : Addr} {v : Option Value} (c : h.IsCell a v) (k : ∀ o, h.get? a = some o → h'.get? a = some o) : h'.IsCell a v := let ⟨o, e, q⟩ := c; ⟨o, k o e, q⟩
theorem tab_at {h h' : Heap} (t : Tab h) (x : Ext1 h h') (e : ∀ o, h.get? 100 = some o → h'.get? 100 = some o) : Tab h' := let ⟨ps, e1, v⟩ := t; ⟨ps, e _ e1, v.ext x⟩
section
variable {w : World} {loose : List Str} {mean : ExcName → Option Value} {mg mb : Str → Option Value} {L : Addr} {q : LP} {h h' : Heap}
theorem LSt.tab (S : LSt w loose mean mg mb L q h) : Tab h := ⟨#[], S.t100, .inl rfl⟩
theorem LSt.wd (S : LSt w loose mean mg mb L q h) : Wd w loose mean mg mb h :=
  have k : Below (fx L h) (gh h) := fun b o e => by
    obtain ⟨e1, n⟩ := hide_get.mp e
    exact gh_ne e1 (fun z => n (by simp [z]))
  ⟨S.X.keeps k, S.T.keeps k, S.tab⟩
theorem LSt.grown (S : LSt w loose mean mg mb L q h) (k : Below h h') : LSt w loose mean mg mb L q h' :=
  have kp : Below (fx L h) (fx L h') := Kp.hide (Kp.all k)
  ⟨S.X.keeps kp, S.T.keeps kp, k _ _ S.t100, S.lt, S.ns.keeps k, cell_at S.i1 fun o e => k _ _ e, cell_at S.i2 fun o e => k _ _ e, cell_at S.i3 fun o e => k _ _ e, cell_at S.i4 fun o e => k _ _ e, k _ _ S.t23, k _ _ S.t124⟩
/-- a change at one of the volatile places -/
theorem LSt.chg {c : Addr} (S : LSt w loose mean mg mb L q h) (sb : Heap.SameBut c h h') (hc : c ∈ vol L) : (kfr w.params).In (fx L h') ∧ Top topProg loose mean mg mb (fx L h') ∧ Below (fx L h) (fx L h') :=
  have kp : Below (fx L h) (fx L h') := Kp.hide (Kp.one sb hc)
  ⟨S.X.keeps kp, S.T.keeps kp, kp⟩
theorem LSt.setL {m' : Str → Option Value} (S : LSt w loose mean mg mb L q h) (n : h'.Ns L m') (sb : Heap.SameBut L h h') : LSt w loose mean mg mb L { q with m := m' } h' ∧ Below (fx L h) (fx L h') := by
  obtain ⟨a, b, c⟩ := S.chg sb (by simp)
  have k : ∀ b o, b ≠ L → h.get? b = some o → h'.get? b = some o := fun b o n e => (sb.2 b n).trans e
  have lt : (124 : Nat) < L := S.lt
  refine ⟨⟨a, b, k _ _ (Nat.ne_of_lt (Nat.lt_trans (by decide) lt)) S.t100, S.lt, n, cell_at S.i1 fun o e => k _ _ (Nat.ne_of_gt (Nat.lt_add_of_pos_right (n := L) (k := 1) (by decide))) e, cell_at S.i2 fun o e => k _ _ (Nat.ne_of_gt (Nat.lt_add_of_pos_right (n := L) (k := 2) (by decide))) e, cell_at S.i3 fun o e => k _ _ (Nat.ne_of_gt (Nat.lt_add_of_pos_right (n := L) (k := 3) (by decide))) e, cell_at S.i4 fun o e => k _ _ (Nat.ne_of_gt (Nat.lt_add_of_pos_right (n := L) (k := 4) (by decide))) e, k _ _ (Nat.ne_of_lt (Nat.lt_trans (by decide) lt)) S.t23, k _ _ (Nat.ne_of_lt lt) S.t124⟩, c⟩
theorem LSt.cne (S : LSt w loose mean mg mb L q h) (i : Nat) : (100 : Nat) ≠ L + i ∧ (23 : Nat) ≠ L + i ∧ (124 : Nat) ≠ L + i :=
  have lt : (124 : Nat) < L + i := Nat.lt_of_lt_of_le S.lt (Nat.le_add_right _ _)
  ⟨Nat.ne_of_lt (Nat.lt_trans (by decide) lt), Nat.ne_of_lt (Nat.lt_trans (by decide) lt), Nat.ne_of_lt lt⟩
theorem addne {L i j : Nat} (h : i ≠ j) : L + i ≠ L + j := fun e => h (Nat.add_left_cancel e)
theorem LSt.set1 {v : Option Value} (S : LSt w loose mean mg mb L q h) (n : h'.IsCell (L + 1) v) (sb : Heap.SameBut (L + 1) h h') : LSt w loose mean mg mb L { q with c1 := v } h' ∧ Below (fx L h) (fx L h') := by
  obtain ⟨a, b, c⟩ := S.chg sb (by simp)
  have k : ∀ b o, b ≠ L + 1 → h.get? b = some o → h'.get? b = some o := fun b o n e => (sb.2 b n).trans e
  obtain ⟨n1, n2, n3⟩ := S.cne 1
  exact ⟨⟨a, b, k _ _ n1 S.t100, S.lt, S.ns.at' fun o e => k _ _ (addne (L := L) (i := 0) (j := 1) (by decide)) e, n, cell_at S.i2 fun o e => k _ _ (addne (L := L) (i := 2) (j := 1) (by decide)) e, cell_at S.i3 fun o e => k _ _ (addne (L := L) (i := 3) (j := 1) (by decide)) e, cell_at S.i4 fun o e => k _ _ (addne (L := L) (i := 4) (j := 1) (by decide)) e, k _ _ n2 S.t23, k _ _ n3 S.t124⟩, c⟩
theorem LSt.set2 {v : Option Value} (S : LSt w loose mean mg mb L q h) (n : h'.IsCell (L + 1 + 1) v) (sb : Heap.SameBut (L + 1 + 1) h h') : LSt w loose mean mg mb L { q with c2 := v } h' ∧ Below (fx L h) (fx L h') := by
  obtain ⟨a, b, c⟩ := S.chg sb (by simp)
  have k : ∀ b o, b ≠ L + 1 + 1 → h.get? b = some o → h'.get? b = some o := fun b o n e => (sb.2 b n).trans e
  obtain ⟨n1, n2, n3⟩ := S.cne 2
  exact ⟨⟨a, b, k _ _ n1 S.t100, S.lt, S.ns.at' fun o e => k _ _ (addne (L := L) (i := 0) (j := 2) (by decide)) e, cell_at S.i1 fun o e => k _ _ (addne (L := L) (i := 1) (j := 2) (by decide)) e, n, cell_at S.i3 fun o e => k _ _ (addne (L := L) (i := 3) (j := 2) (by decide)) e, cell_at S.i4 fun o e => k _ _ (addne (L := L) (i := 4) (j := 2) (by decide)) e, k _ _ n2 S.t23, k _ _ n3 S.t124⟩, c⟩
theorem LSt.set3 {v : Option Value} (S : LSt w loose mean mg mb L q h) (n : h'.IsCell (L + 1 + 1 + 1) v) (sb : Heap.SameBut (L + 1 + 1 + 1) h h') : LSt w loose mean mg mb L { q with c3 := v } h' ∧ Below (fx L h) (fx L h') := by
  obtain ⟨a, b, c⟩ := S.chg sb (by simp)
  have k : ∀ b o, b ≠ L + 1 + 1 + 1 → h.get? b = some o → h'.get? b = some o := fun b o n e => (sb.2 b n).trans e
  obtain ⟨n1, n2, n3⟩ := S.cne 3
  exact ⟨⟨a, b, k _ _ n1 S.t100, S.lt, S.ns.at' fun o e => k _ _ (addne (L := L) (i := 0) (j := 3) (by decide)) e, cell_at S.i1 fun o e => k _ _ (addne (L := L) (i := 1) (j := 3) (by decide)) e, cell_at S.i2 fun o e => k _ _ (addne (L := L) (i := 2) (j := 3) (by decide)) e, n, cell_at S.i4 fun o e => k _ _ (addne (L := L) (i := 4) (j := 3) (by decide)) e, k _ _ n2 S.t23, k _ _ n3 S.t124⟩, c⟩
theorem LSt.set4 {v : Option Value} (S : LSt w loose mean mg mb L q h) (n : h'.IsCell (L + 1 + 1 + 1 + 1) v) (sb : Heap.SameBut (L + 1 + 1 + 1 + 1) h h') : LSt w loose mean mg mb L { q with c4 := v } h' ∧ Below (fx L h) (fx L h') := by
  obtain ⟨a, b, c⟩ := S.chg sb (by simp)
  have k : ∀ b o, b ≠ L + 1 + 1 + 1 + 1 → h.get? b = some o → h'.get? b = some o := fun b o n e => (sb.2 b n).trans e
  obtain ⟨n1, n2, n3⟩ := S.cne 4
  exact ⟨⟨a, b, k _ _ n1 S.t100, S.lt, S.ns.at' fun o e => k _ _ (addne (L := L) (i := 0) (j := 4) (by decide)) e, cell_at S.i1 fun o e => k _ _ (addne (L := L) (i := 1) (j := 4) (by decide)) e, cell_at S.i2 fun o e => k _ _ (addne (L := L) (i := 2) (j := 4) (by decide)) e, cell_at S.i3 fun o e => k _ _ (addne (L := L) (i := 3) (j := 4) (by decide)) e, n, k _ _ n2 S.t23, k _ _ n3 S.t124⟩, c⟩
theorem LSt.fx_grown (S : LSt w loose mean mg mb L q h) (k : Below h h') : Below (fx L h) (fx L h') := Kp.hide (Kp.all k)
end
end Mine
end
section
open PySem PySem.W PySem.Calls PyProof.Rows
set_option Elab.async false
set_option maxRecDepth 100000
set_option maxHeartbeats 8000000
set_option linter.unusedVariables false
namespace Mine
section
variable {w : World} {A : Around} {E : Value → Shared → Prop} {s : Shared}
/-- a comprehension without tests: each turn lays one row -/
theorem blockM {elt target iter : Expr} {scope : Scope} {cl : List (Str × Addr)} {pos : Pos} {env : Env} {I : Addr} {fp wr : List Addr} {n k : Nat} {P Md : Nat → Value → Heap → Prop} {St : Nat → Heap → Prop} {RR : Value → Addr → Result → Shared → Prop}
    (R : Nat → Value → Heap → Prop) (hmono : ∀ i v h h', R i v h → Below h h' → R i v h') (W : KTurns PR w A target I fp wr n P Md St)
    (hself : ∀ (s : Shared) (Q : Value → Shared → Prop) (E : Value → Shared → Prop), St 0 s.heap → Q (.ref I) s → wpAny (model PR w) A (pyIter (.ref I)) Q E s)
    (hsz : n ≤ sizeLine) (hfp : ∀ b ∈ fp, b < s.heap.objs.size) (hst : St 0 s.heap) (hlive : ∀ i h, St i h → ∀ b ∈ wr, ∃ o, h.get? b = some o)
    (hpc : ∀ h, pushCells h scope.names = pushK k h)
    (step : ∀ D C i v h tk m, i < n → P i v h → Kp wr s.heap h → h.Ns C m → (∀ a ∈ cellsK k C, ∃ v, h.IsCell a v) →
      (∀ b ∈ D :: C :: (cellsK k C ++ wr), ∃ o, h.get? b = some o) → (∀ b ∈ D :: C :: cellsK k C, s.heap.get? b = none) → s.heap.objs.size ≤ C →
      wpAny (model PR w) A (assign target (compEnvC scope (cellsFrom (C + 1) scope.names cl) C env) v) (fun _ s₂ =>
            wpAny (model PR w) A (eval elt (compEnvC scope (cellsFrom (C + 1) scope.names cl) C env)) (fun y s₄ => TurnK s k C h (fun h' => R i y (hideAll h' (D :: C :: (cellsK k C ++ wr)))) s₄) (fun _ _ => False) s₂) (fun _ _ => False) { s with heap := h, toks := tk })
    (hfin : ∀ D C (ys : List Value) h tk m, ys.length = n → (∀ j v, ys[j]? = some v → R j v (hideAll h (D :: C :: (cellsK k C ++ wr)))) → Kp wr s.heap h → h.PlainList D ys.toArray → h.Ns C m → (∀ b ∈ D :: C :: cellsK k C, s.heap.get? b = none) → D ≠ C → RR (.ref D) C (.ok .next) { s with heap := h, toks := tk }) :
    wpAny (model PR w) A (newList []) (fun acc s₃ => wpAny (model PR w) A (newFunctionEnv scope env.globals cl [] env.qual none .none (some env)) (fun cenv s₄ =>
      codeAny (model PR w) A (.compStart (.ListComp elt [⟨target, iter, [], 0⟩] scope pos) 0 (.ref I) acc { cenv with scope := relabel scope env }) (RR acc cenv.locals) s₄) E s₃) E s := by
  refine blockH (fun av i ys h => ys.length = i ∧ ∀ j v, ys[j]? = some v → R j v (hideAll h av)) W hself hsz hfp hst hlive hpc (fun av i ys h h' q x => ⟨q.1, fun j v e => hmono _ _ _ _ (q.2 j v e) x.hide⟩) (fun av => ⟨rfl, fun j v e => by simp at e⟩) ?_ fun D C ys h tk m q kp pl nC n0 dc => hfin D C ys h tk m q.1 q.2 kp pl nC n0 dc
  intro D C i ys v h tk m hi hP hJ kp pl nC hcs lv n0 hsC
  refine wpAny_mono (step D C i v h tk m hi hP kp nC hcs lv n0 hsC) (fun _ s₂ h₂ => wpAny_tests_nil ?_) fun _ _ e => e
  · rw [if_pos rfl]
    refine wpAny_mono h₂ (fun y s₄ h₄ => ?_) fun _ _ e => e
    obtain ⟨h', tk', m', e1, e2, e3, e4, e5⟩ := h₄
    refine ⟨h', tk', m', e1, e2, e3, e4, by rw [List.length_append, hJ.1]; rfl, fun j v' ej => ?_⟩
    by_cases hj : j < ys.length
    · rw [List.getElem?_append_left hj] at ej
      exact hmono _ _ _ _ (hJ.2 j v' ej) (Kp.hide (e2.mono fun p hp => by
        rcases List.mem_cons.mp hp with rfl | hp
        · simp
        · exact .tail _ (.tail _ (List.mem_append_left _ hp))))
    · rw [List.getElem?_append_right (by exact fk1 1 1 (.v 0) (.v 1) (.v 0) (.v 1) rfl [_, _] (Nat.le_of_not_lt hj))] at ej
      have hj0 : j = i := by
        have := hJ.1
        cases hd : j - ys.length with
        | zero => exact Nat.le_antisymm (fk3 1 1 1 1 (.v 0) (.v 1) (.v 2) (.v 1) (.v 3) (.n 0) (.v 0) (.a (.v 3) (.v 2)) rfl [_, _, _, _] (Nat.le_of_eq hJ.1) (Nat.le_of_eq hd) (sb2 _ _)) (fk2 1 1 1 (.v 0) (.v 1) (.v 2) (.v 1) (.v 0) (.v 2) rfl [_, _, _] (Nat.le_of_not_lt hj) (Nat.le_of_eq this.symm))
        | succ z => rw [hd] at ej; simp at ej
      subst hj0
      rw [hJ.1] at ej
      simp at ej
      subst ej
      exact e5
/-- the comprehension's frame and loop, as the sources below leave it -/
noncomputable abbrev CompRun (w : World) (A : Around) (E : Value → Shared → Prop) (elt target iter : Expr) (ifs : List Expr) (scope : Scope) (cl : List (Str × Addr)) (pos : Pos) (env : Env) (RR : Value → Addr → Result → Shared → Prop) (it : Value) (s : Shared) : Prop :=
  wpAny (model PR w) A (newList []) (fun acc s₃ => wpAny (model PR w) A (newFunctionEnv scope env.globals cl [] env.qual none .none (some env)) (fun cenv s₄ =>
      codeAny (model PR w) A (.compStart (.ListComp elt [⟨target, iter, ifs, 0⟩] scope pos) 0 it acc { cenv with scope := relabel scope env }) (RR acc cenv.locals) s₄) E s₃) E s
/-- what a turn shall do -/
noncomputable abbrev TurnM (w : World) (A : Around) (s : Shared) (elt target : Expr) (scope : Scope) (cl : List (Str × Addr)) (env : Env) (k : Nat) (wr : List Addr) (R : Nat → Value → Heap → Prop) (i : Nat) (v : Value) (D C : Addr) (h : Heap) (tk : Nat) : Prop :=
  ∀ m, Below s.heap h → h.Ns C m → (∀ a ∈ cellsK k C, ∃ v, h.IsCell a v) → (∀ b ∈ D :: C :: (cellsK k C ++ wr), ∃ o, h.get? b = some o) → (∀ b ∈ D :: C :: cellsK k C, s.heap.get? b = none) → s.heap.objs.size ≤ C →
      wpAny (model PR w) A (assign target (compEnvC scope (cellsFrom (C + 1) scope.names cl) C env) v) (fun _ s₂ =>
            wpAny (model PR w) A (eval elt (compEnvC scope (cellsFrom (C + 1) scope.names cl) C env)) (fun y s₄ => TurnK s k C h (fun h' => R i y (hideAll h' (D :: C :: (cellsK k C ++ wr)))) s₄) (fun _ _ => False) s₂) (fun _ _ => False) { s with heap := h, toks := tk }
noncomputable abbrev FinM (s : Shared) (k n : Nat) (R : Nat → Value → Heap → Prop) (RR : Value → Addr → Result → Shared → Prop) : Prop :=
  ∀ D C (ys : List Value) h h₂ tk m, ys.length = n → (∀ j v, ys[j]? = some v → R j v h₂) → Below h₂ h → h₂.get? C = none → h₂.get? D = none → Below s.heap h → h.PlainList D ys.toArray → h.Ns C m → s.heap.get? C = none → s.heap.get? D = none → D ≠ C → RR (.ref D) C (.ok .next) { s with heap := h, toks := tk }
theorem blockB {elt target iter : Expr} {scope : Scope} {cl : List (Str × Addr)} {pos : Pos} {env : Env} {I : Addr} {fp wr : List Addr} {n k : Nat} {P Md : Nat → Value → Heap → Prop} {St : Nat → Heap → Prop} {RR : Value → Addr → Result → Shared → Prop} {h₁ : Heap} {tk₁ : Nat}
    (hb : Below s.heap h₁) (hsz1 : s.heap.objs.size ≤ h₁.objs.size) (hw : ∀ b ∈ wr, s.heap.get? b = none)
    (R : Nat → Value → Heap → Prop) (hmono : ∀ i v h h', R i v h → Below h h' → R i v h') (W : KTurns PR w A target I fp wr n P Md St)
    (hself : ∀ (s : Shared) (Q : Value → Shared → Prop) (E : Value → Shared → Prop), St 0 s.heap → Q (.ref I) s → wpAny (model PR w) A (pyIter (.ref I)) Q E s)
    (hsz : n ≤ sizeLine) (hfp : ∀ b ∈ fp, b < h₁.objs.size) (hst : St 0 h₁) (hlive : ∀ i h, St i h → ∀ b ∈ wr, ∃ o, h.get? b = some o)
    (hpc : ∀ h, pushCells h scope.names = pushK k h)
    (step : ∀ D C i v h tk, i < n → P i v h → TurnM w A s elt target scope cl env k wr R i v D C h tk)
    (hfin : FinM s k n R RR) :
    CompRun w A E elt target iter [] scope cl pos env RR (.ref I) { s with heap := h₁, toks := tk₁ } := by
  have cv : ∀ h, Kp wr h₁ h → Below s.heap h := fun h kp b o e => kp b o (fun hm => by rw [hw b hm] at e; cases e) (hb b o e)
  have nn : ∀ b, h₁.get? b = none → s.heap.get? b = none := fun b e => by
    cases q : s.heap.get? b with
    | none => rfl
    | some o => rw [hb b o q] at e; cases e
  refine blockM (s := { s with heap := h₁, toks := tk₁ }) R hmono W hself hsz hfp hst hlive hpc ?_ ?_
  · intro D C i v h tk m hi hP kp nC hcs lv n0 hsC
    exact step D C i v h tk hi hP m (cv h kp) nC hcs lv (fun b hb' => nn b (n0 b hb')) (Nat.le_trans hsz1 hsC)
  · intro D C ys h tk m hl hR kp pl nC n0 dc
    exact hfin D C ys h _ tk m hl hR (hide_below _ _) (hideAll_none _ (by simp)) (hideAll_none _ (by simp)) (cv h kp) pl nC (nn C (n0 C (by simp))) (nn D (n0 D (by simp))) dc
/-- over a list -/
theorem srcList {elt iter : Expr} {target : Expr} {scope : Scope} {cl : List (Str × Addr)} {pos : Pos} {env : Env} {ax : Addr} {its : Array Value} {k : Nat} {RR : Value → Addr → Result → Shared → Prop}
    (hh : A.handled = none) (hl : s.heap.IsList ax its) (hsz : its.size ≤ sizeLine) (R : Nat → Value → Heap → Prop) (hmono : ∀ i v h h', R i v h → Below h h' → R i v h') (hpc : ∀ h, pushCells h scope.names = pushK k h)
    (step : ∀ I D C i v h tk, i < its.size → its[i]? = some v → TurnM w A s elt target scope cl env k [I] R i v D C h tk)
    (hfin : FinM s k its.size R RR) :
    wpAny (model PR w) A (pyIter (.ref ax)) (fun it s₂ => CompRun w A E elt target iter [] scope cl pos env RR it s₂) E s := by
  obtain ⟨o, e, _⟩ := id hl
  have lt := Heap.lt_size e
  refine wpAny_pyIter_list hl ?_
  refine blockB (h₁ := s.heap.push _) (fun b o e => Heap.get?_push_of_some _ e) (by rw [Heap.size_push]; exact Nat.le_succ _) (fun b hb => ?_) R hmono (KTurns.ofWalks (Walks.list hh s.heap.objs.size ax (Nat.ne_of_lt lt) its) fun i v s Q E st q => letGo_listiter st.1 q) (fun s Q E st q => wpAny_pyIter_listiter st.1 q) hsz ?_ ⟨⟨_, Heap.get?_push_size _ rfl, rfl, rfl⟩, hl.push _⟩ (fun i h st b hb => ?_) hpc (fun D C i v h tk hi hP => step _ D C i v h tk hi hP) hfin
  · rw [List.mem_singleton.mp hb]; exact Heap.get?_none_of_le (Nat.le_refl _)
  · intro b hb
    rw [Heap.size_push]
    rcases List.mem_cons.mp hb with rfl | hb
    · exact Nat.lt_succ_self _
    · rw [List.mem_singleton.mp hb]; exact Nat.lt_succ_of_lt lt
  · rw [List.mem_singleton.mp hb]
    obtain ⟨o, e, _⟩ := st.1
    exact ⟨o, e⟩
/-- over the pairs of enumerate -/
theorem srcEnum {elt iter : Expr} {elts : List Expr} {kt : Nat} {tp : Pos} {scope : Scope} {cl : List (Str × Addr)} {pos : Pos} {env : Env} {ax : Addr} {its : Array Value} {k : Nat} {RR : Value → Addr → Result → Shared → Prop}
    (hh : A.handled = none) (hl : s.heap.IsList ax its) (hsz : its.size ≤ sizeLine) (R : Nat → Value → Heap → Prop) (hmono : ∀ i v h h', R i v h → Below h h' → R i v h') (hpc : ∀ h, pushCells h scope.names = pushK k h)
    (step : ∀ I J D C i T x t h tk, i < its.size → its[i]? = some x → h.IsTuple T #[.int i t, x] → TurnM w A s elt (.Tuple elts kt tp) scope cl env k [I, J] R i (.ref T) D C h tk)
    (hfin : FinM s k its.size R RR) :
    wpAny (model PR w) A (call (.type "enumerate") [.ref ax]) (fun xv s₁ => wpAny (model PR w) A (pyIter xv) (fun it s₂ => CompRun w A E elt (.Tuple elts kt tp) iter [] scope cl pos env RR it s₂) E s₁) E s := by
  obtain ⟨o, e, _⟩ := id hl
  have lt : (ax : Nat) < s.heap.objs.size := Heap.lt_size e
  refine call_enumerate_list hl fun h' he hit hsz' kp => ?_
  refine wpAny_pyIter_enum he ?_
  have ne1 : s.heap.objs.size + 1 ≠ s.heap.objs.size := Nat.ne_of_gt (Nat.lt_succ_self _)
  refine blockB (h₁ := h') kp (by rw [hsz']; exact Nat.le_add_right _ _) (fun b hb => ?_) R hmono (KTurns.ofWalksU (WalksT.enumerate hh (s.heap.objs.size + 1) s.heap.objs.size ax ne1 (Nat.ne_of_lt (Nat.lt_succ_of_lt lt)) (Nat.ne_of_lt lt) its).toU) (fun s Q E st q => (WalksT.enumerate hh _ _ ax ne1 (Nat.ne_of_lt (Nat.lt_succ_of_lt lt)) (Nat.ne_of_lt lt) its).self 0 _ _ _ st q) hsz ?_ ⟨⟨_, he⟩, hit, let ⟨o, e, q⟩ := hl; ⟨o, kp _ _ e, q⟩⟩ (fun i h st b hb => ?_) hpc (fun D C i v h tk hi hP => ?_) hfin
  · simp only [List.mem_cons, List.not_mem_nil, or_false] at hb
    rcases hb with rfl | rfl
    · exact Heap.get?_none_of_le (Nat.le_succ _)
    · exact Heap.get?_none_of_le (Nat.le_refl _)
  · intro b hb
    rw [hsz']
    simp only [List.mem_cons, List.not_mem_nil, or_false] at hb
    rcases hb with rfl | rfl | rfl
    · exact Nat.lt_succ_self _
    · exact Nat.lt_add_of_pos_right (by decide)
    · exact Nat.lt_of_lt_of_le lt (Nat.le_add_right _ _)
  · simp only [List.mem_cons, List.not_mem_nil, or_false] at hb
    rcases hb with rfl | rfl
    · obtain ⟨old, e⟩ := st.1; exact ⟨_, e⟩
    · obtain ⟨o, e, _⟩ := st.2.1; exact ⟨o, e⟩
  · obtain ⟨T, vals, rfl, ⟨t, x, hx, rfl⟩, hT⟩ := hP
    exact step _ _ D C i T x t h tk hi hx hT
/-- over the pairs of zip -/
theorem srcZip {elt iter : Expr} {elts : List Expr} {kt : Nat} {tp : Pos} {scope : Scope} {cl : List (Str × Addr)} {pos : Pos} {env : Env} {l1 l2 : Addr} {xs ys : Array Value} {k : Nat} {RR : Value → Addr → Result → Shared → Prop}
    (hh : A.handled = none) (hl1 : s.heap.IsList l1 xs) (hl2 : s.heap.IsList l2 ys) (hsz : xs.size ≤ sizeLine) (R : Nat → Value → Heap → Prop) (hmono : ∀ i v h h', R i v h → Below h h' → R i v h') (hpc : ∀ h, pushCells h scope.names = pushK k h)
    (step : ∀ wr D C i T x y h tk, xs[i]? = some x → ys[i]? = some y → h.IsTuple T #[x, y] → TurnM w A s elt (.Tuple elts kt tp) scope cl env k wr R i (.ref T) D C h tk)
    (hfin : FinM s k (min xs.size ys.size) R RR) :
    wpAny (model PR w) A (call (.type "zip") [.ref l1, .ref l2]) (fun xv s₁ => wpAny (model PR w) A (pyIter xv) (fun it s₂ => CompRun w A E elt (.Tuple elts kt tp) iter [] scope cl pos env RR it s₂) E s₁) E s := by
  have lt1 : (l1 : Nat) < s.heap.objs.size := by obtain ⟨o, e, _⟩ := id hl1; exact Heap.lt_size e
  have lt2 : (l2 : Nat) < s.heap.objs.size := by obtain ⟨o, e, _⟩ := id hl2; exact Heap.lt_size e
  refine call_zip_2 hl1 hl2 fun h' hz hTI hTO hi1 hi2 hsz' kp => ?_
  refine wpAny_pyIter_zip hz ?_
  have D0 := zipApart_new lt1 lt2
  refine blockB (h₁ := h') kp (by rw [hsz']; exact Nat.le_add_right _ _) (fun b hb => ?_) R hmono (KTurns.ofWalksU (WalksT.zip2 hh _ _ _ _ _ l1 l2 D0 xs ys).toU) (fun s Q E st q => (WalksT.zip2 hh _ _ _ _ _ l1 l2 D0 xs ys).self 0 _ _ _ st q) (Nat.le_trans (Nat.min_le_left _ _) hsz) ?_ ⟨hz, hTI, ⟨_, _, hTO⟩, hi1, hi2, let ⟨o, e, q⟩ := hl1; ⟨o, kp _ _ e, q⟩, let ⟨o, e, q⟩ := hl2; ⟨o, kp _ _ e, q⟩⟩ (fun i h st b hb => ?_) hpc (fun D C i v h tk hi hP => ?_) hfin
  · simp only [List.mem_cons, List.not_mem_nil, or_false] at hb
    rcases hb with rfl | rfl | rfl | rfl
    · exact Heap.get?_none_of_le (Nat.le_add_right _ _)
    · exact Heap.get?_none_of_le (Nat.le_add_right _ _)
    · exact Heap.get?_none_of_le (Nat.le_refl _)
    · exact Heap.get?_none_of_le (Nat.le_succ _)
  · intro b hb
    rw [hsz']
    simp only [List.mem_cons, List.not_mem_nil, or_false] at hb
    rcases hb with rfl | rfl | rfl | rfl | rfl | rfl | rfl
    · exact Nat.add_lt_add_left (by decide) _
    · exact Nat.add_lt_add_left (by decide) _
    · exact Nat.add_lt_add_left (by decide) _
    · exact Nat.lt_add_of_pos_right (by decide)
    · exact Nat.add_lt_add_left (by decide) _
    · exact Nat.lt_of_lt_of_le lt1 (Nat.le_add_right _ _)
    · exact Nat.lt_of_lt_of_le lt2 (Nat.le_add_right _ _)
  · obtain ⟨a1, a2, ⟨_, _, a3⟩, ⟨_, a4, _⟩, ⟨_, a5, _⟩, _⟩ := st
    simp only [List.mem_cons, List.not_mem_nil, or_false] at hb
    rcases hb with rfl | rfl | rfl | rfl
    · exact ⟨_, a1⟩
    · exact ⟨_, a3⟩
    · exact ⟨_, a4⟩
    · exact ⟨_, a5⟩
  · obtain ⟨T, vals, rfl, ⟨x, y, hx, hy, rfl⟩, hT⟩ := hP
    exact step _ D C i T x y h tk hx hy hT
/-- over range(n) -/
theorem srcRange {elt iter : Expr} {x : Str} {px : Pos} {scope : Scope} {cl : List (Str × Addr)} {pos : Pos} {env : Env} {t : Tok} {k : Nat} {RR : Value → Addr → Result → Shared → Prop}
    (hh : A.handled = none) (R : Nat → Value → Heap → Prop) (hmono : ∀ i v h h', R i v h → Below h h' → R i v h') (hpc : ∀ h, pushCells h scope.names = pushK k h)
    (step : ∀ I D C i t h tk, i < 4 → TurnM w A s elt (.Name x px) scope cl env k [I] R i (.int i t) D C h tk)
    (hfin : FinM s k 4 R RR) :
    wpAny (model PR w) A (call (.type "range") [.int 4 t]) (fun xv s₁ => wpAny (model PR w) A (pyIter xv) (fun it s₂ => CompRun w A E elt (.Name x px) iter [] scope cl pos env RR it s₂) E s₁) E s := by
  refine call_range_1 ?_
  refine wpAny_pyIter_range (a := 0) (b := 4) (c := 1) (Heap.get?_push_size _ rfl) (by decide) ?_
  have up : ∀ b o, s.heap.get? b = some o → ((s.heap.push { cls := .type "range", data := .fields #[.int 0 s.toks, .int 4 t, .int 1 (s.toks + 1)] }).push { cls := .type "range_iterator", data := .fields #[rawInt 0, rawInt (Builtin.Range.rangeSize 0 4 1), rawInt 1] }).get? b = some o := fun b o e => Heap.get?_push_of_some _ (Heap.get?_push_of_some _ e)
  have z1 : (s.heap.push { cls := .type "range", data := .fields #[.int 0 s.toks, .int 4 t, .int 1 (s.toks + 1)] }).objs.size = s.heap.objs.size + 1 := Heap.size_push ..
  dsimp only
  have z2 : s.heap.objs.size ≤ ((s.heap.push { cls := .type "range", data := .fields #[.int 0 s.toks, .int 4 t, .int 1 (s.toks + 1)] }).push { cls := .type "range_iterator", data := .fields #[rawInt 0, rawInt (Builtin.Range.rangeSize 0 4 1), rawInt 1] }).objs.size := by rw [Heap.size_push, z1]; exact Nat.le_add_right _ 2
  refine blockB (s := s) up z2 (fun b hb => ?_) R hmono (KTurns.ofWalks (Walks.range hh _ 0 1 4) fun i v s Q E st q => wpAny_pure q) (fun s Q E st q => wpAny_pyIter_rangeiter st q) (by rw [sizeLine_eq]; decide) ?_ ?_ (fun i h st b hb => ?_) hpc (fun D C i v h tk hi hP => ?_) hfin
  · rw [List.mem_singleton.mp hb]
    exact Heap.get?_none_of_le (by rw [z1]; exact Nat.le_succ _)
  · intro b hb
    rw [List.mem_singleton.mp hb]
    exact Heap.lt_size (Heap.get?_push_size _ rfl)
  · exact Heap.get?_push_size _ rfl
  · rw [List.mem_singleton.mp hb]
    exact ⟨_, st⟩
  · obtain ⟨t', rfl⟩ := hP
    have e : (0 : Int) + (i : Int) * 1 = i := by lia
    rw [e]
    exact step _ D C i t' h tk hi
end
end Mine
end
section
open PySem PySem.W PySem.Calls PyProof.Rows
set_option Elab.async false
set_option maxRecDepth 100000
set_option maxHeartbeats 8000000
set_option linter.unusedVariables false
namespace Mine
section
variable {w : World} {loose : List Str} {mean : ExcName → Option Value} {mg mb : Str → Option Value} {A : Around} {E : Value → Shared → Prop} {s : Shared} {g : Heap} {env : Env}
/-- a built-in name -/
theorem ldB {x : Str} {p : Pos} {v : Value} {Q : Value → Shared → Prop} (X : (kfr w.params).In g) (T : Top topProg loose mean mg mb g) (k : Below g s.heap) (hk : env.scope.kind = .function) (hkd : env.kindOf x = some .globalImplicit) (hge : env.globals = mainGlobals) (hbe : env.builtins = builtinsNs)
    (e : nsIn (kfr w.params) mainGlobals x = some none) (hv : bootBuiltins x = some v) (hn : x ≠ Str.ofString "__name__") (hd : (x == ("__debug__" : Str)) = false) (h : Q v s) : wpAny (model PR w) A (eval (.Name x p) env) Q E s := by
  refine wpAny_Name (ks_loadName_global hk hkd (loadGlobal_builtin (mg := mg) (mb := mb) ?_ (mg_none_of X T.g e) ?_ ((T.builtins x hn).trans hv) h)) hd
  · rw [hge]; exact T.g.keeps k
  · rw [hbe]; exact T.b.keeps k
/-- a name of the text -/
theorem ldG {x : Str} {p : Pos} {v : Value} {Q : Value → Shared → Prop} (X : (kfr w.params).In g) (T : Top topProg loose mean mg mb g) (k : Below g s.heap) (hk : env.scope.kind = .function) (hkd : env.kindOf x = some .globalImplicit) (hge : env.globals = mainGlobals)
    (e : nsIn (kfr w.params) mainGlobals x = some (some v)) (hd : (x == ("__debug__" : Str)) = false) (h : Q v s) : wpAny (model PR w) A (eval (.Name x p) env) Q E s := by
  refine wpAny_Name (ks_loadName_global hk hkd (loadGlobal_global (mg := mg) ?_ (mg_of X T.g e) h)) hd
  rw [hge]; exact T.g.keeps k
/-- two names of a tuple of two -/
theorem asgT2 {T : Addr} {a b : Value} {x y : Str} {px py tp : Pos} {k : Nat} {Q : Unit → Shared → Prop} (hh : A.handled = none) (hT : s.heap.IsTuple T #[a, b])
    (h : ∀ h', Below s.heap h' → wpAny (model PR w) A (storeName env x a) (fun _ s₁ => wpAny (model PR w) A (storeName env y b) (fun _ s₂ => Q () s₂) E s₁) E { s with heap := h' }) :
    wpAny (model PR w) A (assign (.Tuple [.Name x px, .Name y py] k tp) env (.ref T)) Q E s := by
  refine wpAny_assign_Tuple hh hT rfl rfl fun h' eb => ?_
  refine wpAny_assignInOrder_more (wpAny_assign_Name (wpAny_mono (h h' fun b o e => eb b o (Nat.ne_of_lt (Heap.lt_size e)) e) (fun _ s₁ h₁ => ?_) fun _ _ e => e))
  exact wpAny_assignInOrder_more (wpAny_assign_Name (wpAny_mono h₁ (fun _ s₂ h₂ => wpAny_assignInOrder_none h₂) fun _ _ e => e))
/-- two names of a list of two -/
theorem asgW2 {T : Addr} {a b : Value} {x y : Str} {px py tp : Pos} {k : Nat} {Q : Unit → Shared → Prop} (hh : A.handled = none) (hT : s.heap.IsList T #[a, b])
    (h : ∀ h', Below s.heap h' → wpAny (model PR w) A (storeName env x a) (fun _ s₁ => wpAny (model PR w) A (storeName env y b) (fun _ s₂ => Q () s₂) E s₁) E { s with heap := h' }) :
    wpAny (model PR w) A (assign (.Tuple [.Name x px, .Name y py] k tp) env (.ref T)) Q E s := by
  rw [assign_Tuple]
  refine wpAny_bind (wpAny_standAt ?_)
  unfold unpack
  refine wpAny_bind (wpAny_holding (kun_itemsOf (items := #[a, b]) hh hT fun h₁ e₁ => ?_))
  refine wpAny_assignInOrder_more (wpAny_assign_Name (wpAny_mono (h h₁ fun b o e => e₁ b o (Nat.ne_of_lt (Heap.lt_size e)) e) (fun _ s₁ h₁ => ?_) fun _ _ e => e))
  exact wpAny_assignInOrder_more (wpAny_assign_Name (wpAny_mono h₁ (fun _ s₂ h₂ => wpAny_assignInOrder_none h₂) fun _ _ e => e))
end
section
variable {w : World} {A : Around} {E : Value → Shared → Prop} {s : Shared} {env : Env}
theorem pow16 {k1 k2 : Nat} {p1 p2 p3 : Pos} {Q : Value → Shared → Prop} (h : ∀ t tk, Q (.int 65536 t) { s with toks := tk }) : wpAny (model PR w) A (eval (.BinOp (.Constant (.int 2) k1 p1) .Pow (.Constant (.int 16) k2 p2) p3) env) Q E s := by
  refine wpAny_BinOp (wpAny_Constant_int (wpAny_Constant_int (pow_int (by decide) (by decide +kernel) ?_)))
  rw [show (2 : Int) ^ (16 : Int).toNat = 65536 by decide +kernel]
  exact h _ _
theorem nmL {x : Str} {p : Pos} {v : Value} {m : Str → Option Value} {Q : Value → Shared → Prop} (hk : env.scope.kind = .function) (hl : env.kindOf x = some .local) (hn : s.heap.Ns env.locals m) (hv : m x = some v) (hd : (x == ("__debug__" : Str)) = false) (h : Q v s) : wpAny (model PR w) A (eval (.Name x p) env) Q E s :=
  wpAny_Name (wpAny_loadName_local hk hl hn hv h) hd
theorem nmC {x : Str} {p : Pos} {c : Addr} {v : Value} {Q : Value → Shared → Prop} (hk : env.scope.kind = .function) (hl : env.kindOf x = some .cell) (hc : env.cells.lookup x = some c) (hv : s.heap.IsCell c (some v)) (hd : (x == ("__debug__" : Str)) = false) (h : Q v s) : wpAny (model PR w) A (eval (.Name x p) env) Q E s :=
  wpAny_Name (wpAny_loadName_cell hk hl hc hv h) hd
theorem divI {a b : Int} {t u : Tok} {Q : Value → Shared → Prop} (hb : b ≠ 0) (hp : b.natAbs.log2 / 30 + 1 ≤ 300) (h : ∀ t tk, Q (.int (a.fdiv b) t) { s with toks := tk }) : wpAny (model PR w) A (binaryOp .FloorDiv (.int a t) (.int b u)) Q E s :=
  floordiv_int hb (h _ _) (.inl (by
    unfold Builtin.divisionGoesByPylong
    have : (b == 0) = false := by simpa using hb
    simp only [this, Bool.false_eq_true, if_false]
    rw [Bool.and_eq_false_iff]
    left
    simp only [decide_eq_false_iff_not]
    lia))
theorem modI {a b : Int} {t u : Tok} {Q : Value → Shared → Prop} (hb : b ≠ 0) (h : ∀ t tk, Q (.int (a.fmod b) t) { s with toks := tk }) : wpAny (model PR w) A (binaryOp .Mod (.int a t) (.int b u)) Q E s := mod_int hb (h _ _)
theorem conI {i : Int} {k : Nat} {p : Pos} {Q : Value → Shared → Prop} (h : ∀ t tk, Q (.int i t) { s with toks := tk }) : wpAny (model PR w) A (eval (.Constant (.int i) k p) env) Q E s := wpAny_Constant_int (h _ _)
end
theorem sz_small {n : Nat} (h : n ≤ 64) : n ≤ sizeLine := by rw [sizeLine_eq]; exact fk1 1 1 (.v 0) (.n 16777216) (.v 0) (.n 64) rfl [_] h
theorem lv_step {av : List Addr} {h h' : Heap} {C : Addr} {m : Str → Option Value} (lv : ∀ b ∈ av, ∃ o, h.get? b = some o) (k : ∀ b o, b ≠ C → h.get? b = some o → h'.get? b = some o) (n : h'.Ns C m) : ∀ b ∈ av, ∃ o, h'.get? b = some o := fun b hb => by
  by_cases z : b = C
  · obtain ⟨o, _, _, e, _⟩ := n
    exact ⟨o, z ▸ e⟩
  · obtain ⟨o, e⟩ := lv b hb
    exact ⟨o, k b o z e⟩
noncomputable def FileO (x : Int) (j : Nat) (t1 t2 t3 : Tok) : Obj := PySem.W.listOf #[.int (x.fmod 65536) t1, .int ((x.fdiv 65536).fmod 3) t2, .int j t3] 0
inductive FileR (xs : List Int) (j : Nat) (v : Value) (h : Heap) : Prop
  | mk (a : Addr) (t1 t2 t3 : Tok) (x : Int) (e1 : v = .ref a) (e2 : xs[j]? = some x) (e3 : h.get? a = some (FileO x j t1 t2 t3)) : FileR xs j v h
/-- a list of rows -/
noncomputable def RowsAt (R : Nat → Value → Heap → Prop) (n : Nat) (l : Addr) (vs : List Value) (h : Heap) : Prop := (∃ c, h.get? l = some (PySem.W.listOf vs.toArray c)) ∧ vs.length = n ∧ ∀ j v, vs[j]? = some v → R j v h
/-- after a statement: on to the next one -/
inductive Nx (s : Shared) (P : Heap → Prop) (f : Flow) (s' : Shared) : Prop
  | mk (e1 : f = .next) (h' : Heap) (tk' : Nat) (e2 : s' = { s with heap := h', toks := tk' }) (p : P h') : Nx s P f s'
section
variable {w : World} {loose : List Str} {mean : ExcName → Option Value} {mg mb : Str → Option Value} {A : Around} {E : Value → Shared → Prop} {s : Shared} {L : Addr} {q : LP}
theorem LSt.live {h : Heap} (S : LSt w loose mean mg mb L q h) : ∀ b ∈ vol L, ∃ o, h.get? b = some o := fun b hb => by
  simp only [vol, List.mem_cons, List.not_mem_nil, or_false] at hb
  rcases hb with rfl | rfl | rfl | rfl | rfl | rfl | rfl | rfl
  · exact ⟨_, S.t23⟩
  · obtain ⟨_, e, _⟩ := S.tab; exact ⟨_, e⟩
  · exact ⟨_, S.t124⟩
  · obtain ⟨_, _, _, e, _⟩ := S.ns; exact ⟨_, e⟩
  · obtain ⟨_, e, _⟩ := S.i1; exact ⟨_, e⟩
  · obtain ⟨_, e, _⟩ := S.i2; exact ⟨_, e⟩
  · obtain ⟨_, e, _⟩ := S.i3; exact ⟨_, e⟩
  · obtain ⟨_, e, _⟩ := S.i4; exact ⟨_, e⟩
theorem fx_below {h h' : Heap} (k : Below h h') : Below (fx L h) (fx L h') := Kp.hide (Kp.all k)
/-- what is new stands in the hidden heap -/
theorem fresh_in {h h' : Heap} {av : List Addr} {a : Addr} {o : Obj} (e : h'.get? a = some o) (f : h.get? a = none) (l1 : ∀ b ∈ av, ∃ o, h.get? b = some o) (l2 : ∀ b ∈ vol L, ∃ o, h.get? b = some o) : (fx L (hideAll h' av)).get? a = some o :=
  hide_get.mpr ⟨hide_get.mpr ⟨e, fun hm => by obtain ⟨o', e'⟩ := l1 a hm; rw [f] at e'; cases e'⟩, fun hm => by obtain ⟨o', e'⟩ := l2 a hm; rw [f] at e'; cases e'⟩
/-- a comprehension's own names go -/
theorem LSt.skip {q₀ : LP} {h₀ h h' : Heap} {C : Addr} {m : Str → Option Value} (S₀ : LSt w loose mean mg mb L q₀ h₀) (S : LSt w loose mean mg mb L q h) (kb : Below (fx L h₀) (fx L h)) (hC : h₀.get? C = none) (nC : h.Ns C m) (sb : Heap.SameBut C h h') :
    LSt w loose mean mg mb L q h' ∧ Below (fx L h₀) (fx L h') := by
  have k : ∀ b o, b ≠ C → h.get? b = some o → h'.get? b = some o := fun b o hb e => (sb.2 b hb).trans e
  have cv : C ∉ vol L := fun hm => by obtain ⟨o, e⟩ := S₀.live C hm; rw [hC] at e; cases e
  have nv : ∀ b ∈ vol L, b ≠ C := fun b hb z => cv (z ▸ hb)
  have kb' : Below (fx L h₀) (fx L h') := fun b o e => by
    obtain ⟨e1, n1⟩ := hide_get.mp (kb b o e)
    exact hide_get.mpr ⟨k b o (fun z => by rw [z] at e; rw [of_hideAll _ e] at hC; cases hC) e1, n1⟩
  exact ⟨⟨S₀.X.keeps kb', S₀.T.keeps kb', k _ _ (nv 100 (by simp)) S.t100, S.lt, S.ns.at' fun o e => k _ _ (nv _ (by simp)) e, cell_at S.i1 fun o e => k _ _ (nv _ (by simp)) e, cell_at S.i2 fun o e => k _ _ (nv _ (by simp)) e, cell_at S.i3 fun o e => k _ _ (nv _ (by simp)) e, cell_at S.i4 fun o e => k _ _ (nv _ (by simp)) e, k _ _ (nv _ (by simp)) S.t23, k _ _ (nv _ (by simp)) S.t124⟩, kb'⟩
/-- the end of `y = [..]`, a local name -/
theorem finLocal {y : Str} {py : Pos} {k n : Nat} {R : Nat → Value → Heap → Prop} (S : LSt w loose mean mg mb L q s.heap) (hy : (lawE L).kindOf y = some .local) (hmono : ∀ i v h h', R i v h → Below h h' → R i v h') :
    FinM s k n (fun i v h => R i v (fx L h)) (compPost (model PR w) A E (some (assign (.Name y py) (lawE L))) (fun _ s' => Nx s (fun h' => ∃ lf fs, LSt w loose mean mg mb L { q with m := fun z => if z = y then some (.ref lf) else q.m z } h' ∧ Below (fx L s.heap) (fx L h') ∧ RowsAt R n lf fs (fx L h')) .next s')) := by
  intro D C ys h h₂ tk m hl hR hb hC2 hD2 hsb pl nC hC hD dc
  have S1 := S.grown hsb
  have lv := S.live
  have cv : C ∉ vol L := fun hm => by obtain ⟨o, e⟩ := lv C hm; rw [hC] at e; cases e
  have dv : D ∉ vol L := fun hm => by obtain ⟨o, e⟩ := lv D hm; rw [hD] at e; cases e
  refine wpAny_assign_Name (wpAny_storeName_local hy S1.ns (fun h₃ n₃ s₃ => ?_))
  obtain ⟨S3, k3⟩ := S1.setL n₃ s₃
  refine ⟨m, nC.at' fun o e => (s₃.2 C (fun z => cv (by show C ∈ vol L; rw [show C = L from z]; simp))).trans e, fun h₄ s₄ => ⟨rfl, h₄, _, rfl, ?_⟩⟩
  have nC3 : h₃.Ns C m := nC.at' fun o e => (s₃.2 C (fun z => cv (by show C ∈ vol L; rw [show C = L from z]; simp))).trans e
  obtain ⟨S4, k4⟩ := LSt.skip S S3 ((fx_below hsb).trans k3) hC nC3 s₄
  have k24 : Below (fx L h₂) (fx L h₄) := fun b o e => by
    obtain ⟨e1, n1⟩ := hide_get.mp (k3 b o (fx_below hb b o e))
    exact hide_get.mpr ⟨(s₄.2 b (fun z => by rw [z] at e; rw [of_hideAll _ e] at hC2; cases hC2)).trans e1, n1⟩
  obtain ⟨cz, ez⟩ := pl
  refine ⟨D, ys, S4, k4, ⟨cz, hide_get.mpr ⟨(s₄.2 D dc).trans ((s₃.2 D fun z => dv (by show D ∈ vol L; rw [show D = L from z]; simp)).trans ez), dv⟩⟩, hl, fun j v e => hmono _ _ _ _ (hR j v e) k24⟩
theorem fileR_mono (xs : List Int) : ∀ i v h h', FileR xs i v h → Below h h' → FileR xs i v h' := by
  rintro i v h h' ⟨a, t1, t2, t3, x, e1, e2, e3⟩ k
  exact ⟨a, t1, t2, t3, x, e1, e2, k _ _ e3⟩
theorem st1 {ln : Addr} {vs : List Value} {xs : List Int} (S : LSt w loose mean mg mb L q s.heap) (r : Rm A 20) (hm : q.m (Str.ofString "numbers") = some (.ref ln)) (hl : (fx L s.heap).IsList ln vs.toArray) (hv : IntsAre vs xs) (hsz : vs.length ≤ 60) :
    wpAny (model PR w) A (exec (lawS 1) (lawE L)) (Nx s fun h' => ∃ lf fs, LSt w loose mean mg mb L { q with m := fun z => if z = Str.ofString "files" then some (.ref lf) else q.m z } h' ∧ Below (fx L s.heap) (fx L h') ∧ RowsAt (FileR xs) xs.length lf fs (fx L h')) E s := by
  have X := S.X
  have T := S.T
  obtain ⟨Ah, Ad, Af, Ag, Au⟩ := A
  obtain rfl : Ah = none := r.1
  refine compA (by kernel_rfl!) (cl := []) ?c1 rfl ?c3 ?c4 ?_
  case c1 => kernel_rfl!
  case c3 => decide
  case c4 => intro; rfl
  refine wpAny_Call_NameR (ldB X T (hide_below _ _) rfl rfl rfl rfl (v := .type "enumerate") (by kernel_rfl!) (by kernel_rfl!) (by decide) rfl ?_)
  refine PyProof.Rows.callWith_type1 ?_
  refine spliced_cons (wpAny_Name (wpAny_loadName_local rfl rfl S.ns hm (spliced_nil ?_)))
  have hl0 : s.heap.IsList ln vs.toArray := let ⟨o, e, q⟩ := hl; ⟨o, of_hideAll _ e, q⟩
  have hlen := ints_len' hv
  have fin := finLocal (A := ⟨none, Ad, Af, Ag, Au⟩) (E := E) (y := Str.ofString "files") (py := ⟨110, 4, 110, 9⟩) (k := 0) (n := vs.toArray.size) S rfl (fileR_mono xs)
  rw [show vs.toArray.size = xs.length by rw [List.size_toArray, hlen]] at fin
  refine srcEnum (k := 0) rfl hl0 ?_ (fun i v h => FileR xs i v (fx L h)) (fun i v h h' x k => fileR_mono xs i v _ _ x (fx_below k)) (fun _ => rfl) ?_ (by rw [show vs.toArray.size = xs.length by rw [List.size_toArray, hlen]]; exact fin)
  · rw [List.size_toArray, sizeLine_eq]; exact fk1 1 1 (.v 0) (.n 16777216) (.v 0) (.n 60) rfl [_] hsz
  intro I J D C i T' x t h tk hi hx hT m kb nC hcs lv n0 hsC
  obtain ⟨a, ta, rfl, hxa⟩ := ints_at hv (i := i) (v := x) (by simpa using hx)
  refine asgT2 rfl hT fun h₁ kb₁ => wpAny_storeName_local rfl (nC.keeps kb₁) fun h₂ n₂ s₂ => wpAny_storeName_local rfl n₂ fun h₃ n₃ s₃ => ?_
  have n₄ : h₃.Ns C fun z => if z = Str.ofString "x" then some (.int a ta) else if z = Str.ofString "place" then some (.int i t) else m z := n₃
  refine wpAny_List (spliced_cons (wpAny_BinOp ?_))
  refine nmL rfl rfl n₄ rfl rfl ?_
  refine pow16 fun t1 tk1 => ?_
  refine modI (by decide) fun t2 tk2 => ?_
  refine spliced_cons (wpAny_BinOp (wpAny_BinOp ?_))
  refine nmL rfl rfl n₄ rfl rfl ?_
  refine pow16 fun t3 tk3 => ?_
  refine divI (by decide) (by decide) fun t4 tk4 => ?_
  refine conI fun t5 tk5 => ?_
  refine modI (by decide) fun t6 tk6 => ?_
  refine spliced_cons ?_
  refine nmL rfl rfl n₄ rfl rfl ?_
  refine spliced_nil ⟨sz_small (by simp), ?_⟩
  dsimp only
  have k3 : ∀ b o, b ≠ C → h.get? b = some o → h₃.get? b = some o := fun b o hb e => (s₃.2 b hb).trans ((s₂.2 b hb).trans (kb₁ b o e))
  refine ⟨_, _, _, rfl, fun b o hb e => Heap.get?_push_of_some _ (k3 b o (fun z => hb (z ▸ .head _)) e), n₄.keeps fun b o e => Heap.get?_push_of_some _ e, fun a ha => by simp [cellsK] at ha, _, _, _, _, a, rfl, hxa, fresh_in (h := h₃) (Heap.get?_push_size _ rfl) (Heap.get?_none_of_le (Nat.le_refl _)) (lv_step lv k3 n₄) (lv_step (fun b hb => let ⟨o, e⟩ := S.live b hb; ⟨o, kb b o e⟩) k3 n₄)⟩
end
end Mine
end
section
open PySem PySem.W PySem.Calls PyProof.Rows
set_option Elab.async false
set_option maxRecDepth 100000
set_option maxHeartbeats 8000000
set_option linter.unusedVariables false
namespace Mine
section
variable {w : World} {A : Around} {E : Value → Shared → Prop} {s : Shared} {env : Env}
/-- a slice's part, told in tokens alone -/
noncomputable def PartE (w : World) (A : Around) (env : Env) (e : Option Expr) (o : Option Int) : Prop := ∀ (s : Shared) (Q : Value → Shared → Prop) (E : Value → Shared → Prop), (∀ v tk, IsPart v o → Q v { s with toks := tk }) → wpAny (model PR w) A (evalPart e env) Q E s
theorem part0 : PartE w A env none none := fun s Q E h => wpAny_evalPart_none (h _ _ .none)
theorem partI {i : Int} {k : Nat} {p : Pos} : PartE w A env (some (.Constant (.int i) k p)) (some i) := fun s Q E h => wpAny_evalPart_some (conI fun t tk => h _ _ (.int i t))
theorem partN {i : Int} {k : Nat} {p p' : Pos} : PartE w A env (some (.UnaryOp .USub (.Constant (.int i) k p) p')) (some (-i)) := fun s Q E h => wpAny_evalPart_some (wpAny_UnaryOp (conI fun t tk => PySem.P.neg_int (h _ _ (.int (-i) _))))
theorem sliL {value : Expr} {lower upper step : Option Expr} {p pos : Pos} {a : Addr} {vs zs : List Value} {lo hi st : Option Int} {ops : List Value} {Q : Value → Shared → Prop}
    (hv : ∀ Q' : Value → Shared → Prop, Q' (.ref a) s → wpAny (model PR w) A (eval value env) Q' E s) (hL : s.heap.IsList a vs.toArray)
    (pl : PartE w A env lower lo) (pu : PartE w A env upper hi) (ps : PartE w A env step st) (h0 : st ≠ some 0) (hp : slicePick vs.toArray lo hi st = zs.toArray) (hsz : vs.length ≤ 64)
   (hs : subscripted (.Slice lower upper step p) false (.ref a) (.ref s.heap.objs.size) = operate ops (getItem (.ref a) (.ref s.heap.objs.size)))
    (hQ : ∀ D h' tk', Below s.heap h' → s.heap.get? D = none → h'.get? D = some (PySem.W.listOf zs.toArray 0) → Q (.ref D) { s with heap := h', toks := tk' }) :
    wpAny (model PR w) A (eval (.Subscript value (.Slice lower upper step p) pos) env) Q E s := by
  refine Subscript_ (hv _ (wpAny_Slice (pl _ _ _ fun v1 tk1 p1 => pu _ _ _ fun v2 tk2 p2 => ps _ _ _ fun v3 tk3 p3 => ?_)))
  dsimp only
  refine tail_any (Heap.IsList.typeIs (s := { s with heap := s.heap.push { cls := .type "slice", data := .fields #[v1, v2, v3] }, toks := tk3 }) (hL.push _)) list_getitem_lookup
    (wpAny_getItem_list_slice (hL.push _) (Heap.IsSliceOf.new ..) p1 p2 p3 h0 ?_ (sz_small (by rw [List.size_toArray]; exact hsz))) hs
  rw [hp]
  refine hQ _ _ _ (fun b o e => Heap.get?_push_of_some _ (Heap.get?_push_of_some _ e)) (Heap.get?_none_of_le ?_) (Heap.get?_push_size _ rfl)
  show s.heap.objs.size ≤ (s.heap.push _).objs.size
  rw [Heap.size_push]
  exact Nat.le_succ _
theorem sliE {value : Expr} {lower upper step : Option Expr} {p pos : Pos} {a : Addr} {vs zs : List Value} {n : Nat} {lo hi st : Option Int} {ops : List Value} {Q : Value → Shared → Prop}
    (hv : ∀ Q' : Value → Shared → Prop, Q' (.ref a) s → wpAny (model PR w) A (eval value env) Q' E s) (hl : s.heap.get? a = some (PySem.W.listOf vs.toArray n))
    (pl : PartE w A env lower lo) (pu : PartE w A env upper hi) (ps : PartE w A env step st) (h0 : st ≠ some 0) (hp : slicePick vs.toArray lo hi st = zs.toArray) (hsz : vs.length ≤ 64)
   (hs : subscripted (.Slice lower upper step p) false (.ref a) (.ref s.heap.objs.size) = operate ops (getItem (.ref a) (.ref s.heap.objs.size)))
    (hQ : ∀ D h' tk', Below s.heap h' → s.heap.get? D = none → h'.get? D = some (PySem.W.listOf zs.toArray 0) → Q (.ref D) { s with heap := h', toks := tk' }) :
    wpAny (model PR w) A (eval (.Subscript value (.Slice lower upper step p) pos) env) Q E s :=
  sliL hv ⟨_, hl, rfl, _, rfl⟩ pl pu ps h0 hp hsz hs hQ
theorem addLL {a b : Addr} {xs ys : List Value} {n m : Nat} {Q : Value → Shared → Prop} (ha : s.heap.get? a = some (PySem.W.listOf xs.toArray n)) (hb : s.heap.get? b = some (PySem.W.listOf ys.toArray m)) (hsz : xs.length + ys.length ≤ 64)
    (hQ : ∀ D h', Below s.heap h' → s.heap.get? D = none → h'.get? D = some (PySem.W.listOf (xs ++ ys).toArray 0) → Q (.ref D) { s with heap := h' }) :
    wpAny (model PR w) A (binaryOp .Add (.ref a) (.ref b)) Q E s := by
  refine PySem.P.add_list (items := xs.toArray) (items2 := ys.toArray) (n := n) (n2 := m) ha hb ?_ (by rw [List.size_toArray, List.size_toArray]; exact sz_small hsz)
  refine hQ _ _ (fun b o e => Heap.get?_push_of_some _ e) (Heap.get?_none_of_le (Nat.le_refl _)) ?_
  rw [← List.append_toArray]
  exact Heap.get?_push_size _ rfl
/-- an item of a list -/
theorem subI {value slice : Expr} {pos : Pos} {l : Addr} {items : Array Value} {n : Nat} {k : Int} {v : Value} {Q : Value → Shared → Prop}
    (h : wpAny (model PR w) A (eval value env) (fun o s₁ => wpAny (model PR w) A (eval slice env) (fun i s₂ => ∃ u, o = .ref l ∧ i = .int k u ∧ s₂.heap.get? l = some (PySem.W.listOf items n) ∧ Q v s₂) E s₁) E s)
    (h0 : 0 ≤ k) (hk : k < 64) (hx : items[k.toNat]? = some v)
    (hs : ∀ u, subscripted slice false (.ref l) (.int k u) = operate [.ref l, .int k u] (getItem (.ref l) (.int k u))) :
    wpAny (model PR w) A (eval (.Subscript value slice pos) env) Q E s := by
  refine Subscript_ (wpAny_mono h (fun o s₁ h₁ => wpAny_mono h₁ (fun i s₂ h₂ => ?_) fun _ _ e => e) fun _ _ e => e)
  obtain ⟨u, rfl, rfl, hl, hq⟩ := h₂
  have hL : s₂.heap.IsList l items := ⟨_, hl, rfl, _, rfl⟩
  exact tail_any hL.typeIs slot_list_getitem.lookup (wpAny_getItem_list hL h0 (by lia) hx hq) (hs u)
/-- a comprehension within an expression -/
theorem compE {elt target iter : Expr} {ifs : List Expr} {scope : Scope} {cl : List (Str × Addr)} {pos : Pos} {env : Env} {Q : Value → Shared → Prop}
    (hclos : closureFor scope env = pure cl) (hkind : scope.kind = .function) (hnames : ∀ z ∈ scope.names, z.2 = .local → scope.names.lookup z.1 = some .local) (hs : ∀ x, foldedSetIterable iter env x = pure x)
    (h : wpAny (model PR w) A (eval iter env) (fun xv s₁ => wpAny (model PR w) A (pyIter xv) (fun it s₂ => CompRun w A E elt target iter ifs scope cl pos env (compPost (model PR w) A E none Q) it s₂) E s₁) E s) :
    wpAny (model PR w) A (eval (.ListComp elt [⟨target, iter, ifs, 0⟩] scope pos) env) Q E s := by
  rw [eval_ListComp]
  exact wpAny_comprehension_free (use := none) rfl hs hclos hkind hnames h
/-- a comprehension's end, nothing but new things made -/
theorem finB {k n : Nat} {R : Nat → Value → Heap → Prop} {Q : Value → Shared → Prop} (hmono : ∀ i v h h', R i v h → Below h h' → R i v h')
    (hQ : ∀ D (ys : List Value) h' tk', s.heap.get? D = none → Below s.heap h' → (∃ c, h'.get? D = some (PySem.W.listOf ys.toArray c)) → ys.length = n → (∀ j v, ys[j]? = some v → R j v h') → Q (.ref D) { s with heap := h', toks := tk' }) :
    FinM s k n R (compPost (model PR w) A E none Q) := by
  intro D C ys h h₂ tk m hl hR hb hC2 hD2 hsb pl nC hC hD dc
  refine ⟨m, nC, fun h₄ s₄ => ?_⟩
  have k4 : ∀ b o, b ≠ C → h.get? b = some o → h₄.get? b = some o := fun b o hb e => (s₄.2 b hb).trans e
  obtain ⟨cz, ez⟩ := pl
  exact hQ D ys h₄ _ hD (fun b o e => k4 b o (fun z => by rw [z, hC] at e; cases e) (hsb b o e)) ⟨cz, k4 _ _ dc ez⟩ hl fun j v e => hmono _ _ _ _ (hR j v e) fun b o e => k4 b o (fun z => by rw [z, hC2] at e; cases e) (hb b o e)
end
end Mine
end
section
open PySem PySem.W PySem.Calls PyProof.Rows
set_option Elab.async false
set_option maxRecDepth 100000
set_option maxHeartbeats 8000000
set_option linter.unusedVariables false
namespace Mine
section
variable {w : World} {loose : List Str} {mean : ExcName → Option Value} {mg mb : Str → Option Value} {A : Around} {E : Value → Shared → Prop} {s : Shared} {L : Addr} {q : LP}
/-- a source's own places change -/
theorem LSt.wrk {q₀ : LP} {h₀ h h' : Heap} {av : List Addr} (S₀ : LSt w loose mean mg mb L q₀ h₀) (S : LSt w loose mean mg mb L q h) (kb : Below (fx L h₀) (fx L h)) (hav : ∀ b ∈ av, h₀.get? b = none) (k : Kp av h h') :
    LSt w loose mean mg mb L q h' ∧ Below (fx L h₀) (fx L h') := by
  have nv : ∀ b ∈ vol L, b ∉ av := fun b hb z => by obtain ⟨o, e⟩ := S₀.live b hb; rw [hav b z] at e; cases e
  have kb' : Below (fx L h₀) (fx L h') := fun b o e => by
    obtain ⟨e1, n1⟩ := hide_get.mp (kb b o e)
    exact hide_get.mpr ⟨k b o (fun z => by have e0 := of_hideAll _ e; rw [hav b z] at e0; cases e0) e1, n1⟩
  exact ⟨⟨S₀.X.keeps kb', S₀.T.keeps kb', k _ _ (nv _ (by simp)) S.t100, S.lt, S.ns.at' fun o e => k _ _ (nv _ (by simp)) e, cell_at S.i1 fun o e => k _ _ (nv _ (by simp)) e, cell_at S.i2 fun o e => k _ _ (nv _ (by simp)) e, cell_at S.i3 fun o e => k _ _ (nv _ (by simp)) e, cell_at S.i4 fun o e => k _ _ (nv _ (by simp)) e, k _ _ (nv _ (by simp)) S.t23, k _ _ (nv _ (by simp)) S.t124⟩, kb'⟩
theorem fx_hide {h h' : Heap} {av : List Addr} (k : Below (fx L h) (fx L h')) : Below (fx L (hideAll h av)) (fx L (hideAll h' av)) := fun b o e => by
  obtain ⟨e1, n1⟩ := hide_get.mp e
  obtain ⟨e2, n2⟩ := hide_get.mp e1
  exact hide_get.mpr ⟨hide_get.mpr ⟨of_hideAll _ (k b o (hide_get.mpr ⟨e2, n1⟩)), n2⟩, n1⟩
theorem forL {target : Expr} {body : List Stmt} {I : Addr} {fp wr : List Addr} {n : Nat} {P Md : Nat → Value → Heap → Prop} {St : Nat → Heap → Prop} {q₀ : LP} {h₁ : Heap} {tk₁ : Nat} {R : Result → Shared → Prop} (W : KTurns PR w A target I fp wr n P Md St)
    (S₀ : LSt w loose mean mg mb L q₀ s.heap) (hb : Below s.heap h₁) (hw : ∀ b ∈ wr, s.heap.get? b = none) (hfp : ∀ b ∈ fp, b ∉ vol L) (hst : St 0 h₁) (hlive : ∀ i h, St i h → ∀ b ∈ wr, ∃ o, h.get? b = some o)
    (G : Nat → LP → Heap → Prop) (hmono : ∀ i q h h', G i q h → Below h h' → G i q h') (h0 : G 0 q₀ (fx L s.heap))
    (step : ∀ i v q h tk, i < n → P i v h → LSt w loose mean mg mb L q h → Below (fx L s.heap) (fx L h) → G i q (fx L (hideAll h wr)) → (∀ b ∈ wr, ∃ o, h.get? b = some o) →
      wpAny (model PR w) A (assign target (lawE L) v) (fun _ s₂ => wpAny (model PR w) A (execs body (lawE L)) (fun f s₃ => f = .next ∧ ∃ h' tk' q', s₃ = { s with heap := h', toks := tk' } ∧ LSt w loose mean mg mb L q' h' ∧ Below (fx L h) (fx L h') ∧ G (i + 1) q' (fx L (hideAll h' wr))) (fun _ _ => False) s₂) (fun _ _ => False) { s with heap := h, toks := tk })
    (done : ∀ q h tk, LSt w loose mean mg mb L q h → Below (fx L s.heap) (fx L h) → G n q (fx L h) → R (.ok .next) { s with heap := h, toks := tk }) :
    codeAny (model PR w) A (.forLoop target (.ref I) body [] (lawE L)) R { s with heap := h₁, toks := tk₁ } := by
  have old : Below s.heap (hideAll h₁ wr) := fun b o e => hide_get.mpr ⟨hb b o e, fun z => by rw [hw b z] at e; cases e⟩
  refine codeAny_forLoop_any
    (fun k s' => ∃ h' tk q i, s' = { s with heap := h', toks := tk } ∧ St i h' ∧ LSt w loose mean mg mb L q h' ∧ Below (fx L s.heap) (fx L h') ∧ G i q (fx L (hideAll h' wr)) ∧ i ≤ n ∧ k = n + 1 - i) ?_ (n + 1)
    ⟨h₁, tk₁, q₀, 0, rfl, hst, S₀.grown hb, fx_below hb, hmono _ _ _ _ h0 (fx_below old), Nat.zero_le _, rfl⟩
  rintro k s' ⟨h', tk, q, i, rfl, hst', S', kb', hG, hi, rfl⟩
  by_cases hlt : i < n
  · refine W.item i _ _ _ hlt hst' fun v h₂ tk₂ hMd k₂ => ?_
    refine W.go i v _ _ _ hMd fun h₃ hP st₃ k₃ => ?_
    have k23 : Kp wr h' h₃ := fun b o hb e => k₃ b o hb (k₂ b o hb e)
    obtain ⟨S₃, kb₃⟩ := LSt.wrk S₀ S' kb' hw k23
    have G₃ : G i q (fx L (hideAll h₃ wr)) := hmono _ _ _ _ hG (fx_below (Kp.hide k23))
    refine wpAny_mono (step i v q h₃ tk₂ hlt hP S₃ kb₃ G₃ (hlive _ _ st₃)) (fun _ s₂ h₂' => wpAny_mono h₂' (fun f s₃ h₃' => ?_) fun _ _ e => e.elim) fun _ _ e => e.elim
    obtain ⟨rfl, h₄, tk₄, q₄, rfl, S₄, kb₄, G₄⟩ := h₃'
    exact ⟨n + 1 - (i + 1), by exact fk2 1 1 1 (.a (.v 0) (.n 1)) (.v 1) (.a (.v 2) (.n 1)) (.a (.v 1) (.v 3)) (.a (.v 0) (.a (.v 3) (.n 1))) (.a (.v 2) (.n 1)) rfl [_, _, _, _] (sb2 _ _) (sb3 (fk1 1 1 (.a (.v 0) (.n 1)) (.a (.v 1) (.n 1)) (.v 0) (.v 1) rfl [_, _] hi)), h₄, tk₄, q₄, i + 1, rfl, W.frame _ _ _ st₃ fun b hb o e => of_hideAll _ (kb₄ b o (hide_get.mpr ⟨e, hfp b hb⟩)), S₄, kb₃.trans kb₄, G₄, hlt, rfl⟩
  · have hin : i = n := by exact Nat.le_antisymm (fk1 1 1 (.v 0) (.v 1) (.v 0) (.v 1) rfl [_, _] hi) (fk1 1 1 (.v 0) (.v 1) (.v 0) (.v 1) rfl [_, _] (Nat.le_of_not_lt hlt))
    subst hin
    refine W.done _ _ _ hst' fun h₂ tk₂ k₂ => ?_
    obtain ⟨S₂, kb₂⟩ := LSt.wrk S₀ S' kb' hw k₂
    refine wpAny_execs_nil ?_
    exact done q h₂ tk₂ S₂ kb₂ (hmono _ _ _ _ hG (fx_below (fun b o e => of_hideAll _ (Kp.hide k₂ b o e))))
/-- a for over the pairs of zip -/
theorem forZip {elts : List Expr} {kt : Nat} {tp : Pos} {body : List Stmt} {l1 l2 : Addr} {xs ys : Array Value} {q₀ : LP} {R : Result → Shared → Prop}
    (hh : A.handled = none) (S₀ : LSt w loose mean mg mb L q₀ s.heap) (hl1 : (fx L s.heap).IsList l1 xs) (hl2 : (fx L s.heap).IsList l2 ys)
    (G : Nat → LP → Heap → Prop) (hmono : ∀ i q h h', G i q h → Below h h' → G i q h') (h0 : G 0 q₀ (fx L s.heap))
    (step : ∀ wr i T x y q h tk, xs[i]? = some x → ys[i]? = some y → h.IsTuple T #[x, y] → LSt w loose mean mg mb L q h → Below (fx L s.heap) (fx L h) → G i q (fx L (hideAll h wr)) → (∀ b ∈ wr, ∃ o, h.get? b = some o) →
      wpAny (model PR w) A (assign (.Tuple elts kt tp) (lawE L) (.ref T)) (fun _ s₂ => wpAny (model PR w) A (execs body (lawE L)) (fun f s₃ => f = .next ∧ ∃ h' tk' q', s₃ = { s with heap := h', toks := tk' } ∧ LSt w loose mean mg mb L q' h' ∧ Below (fx L h) (fx L h') ∧ G (i + 1) q' (fx L (hideAll h' wr))) (fun _ _ => False) s₂) (fun _ _ => False) { s with heap := h, toks := tk })
    (done : ∀ q h tk, LSt w loose mean mg mb L q h → Below (fx L s.heap) (fx L h) → G (min xs.size ys.size) q (fx L h) → R (.ok .next) { s with heap := h, toks := tk }) :
    wpAny (model PR w) A (call (.type "zip") [.ref l1, .ref l2]) (fun xv s₁ => wpAny (model PR w) A (pyIter xv) (fun it s₂ => codeAny (model PR w) A (.forLoop (.Tuple elts kt tp) it body [] (lawE L)) R s₂) E s₁) E s := by
  obtain ⟨o1, e1, r1⟩ := id hl1
  obtain ⟨o2, e2, r2⟩ := id hl2
  obtain ⟨e1', v1⟩ := hide_get.mp e1
  obtain ⟨e2', v2⟩ := hide_get.mp e2
  have lt1 : (l1 : Nat) < s.heap.objs.size := Heap.lt_size e1'
  have lt2 : (l2 : Nat) < s.heap.objs.size := Heap.lt_size e2'
  have hl1' : s.heap.IsList l1 xs := ⟨o1, e1', r1⟩
  have hl2' : s.heap.IsList l2 ys := ⟨o2, e2', r2⟩
  refine call_zip_2 hl1' hl2' fun h' hz hTI hTO hi1 hi2 hsz' kp => ?_
  refine wpAny_pyIter_zip hz ?_
  have D0 := zipApart_new lt1 lt2
  have nv : ∀ b : Addr, s.heap.objs.size ≤ b → b ∉ vol L := fun b hb hm => by
    obtain ⟨o, e⟩ := S₀.live b hm
    exact absurd (Heap.lt_size e) (Nat.not_lt.mpr hb)
  refine forL (h₁ := h') (KTurns.ofWalksU (WalksT.zip2 hh _ _ _ _ _ l1 l2 D0 xs ys).toU) S₀ kp (fun b hb => ?_) (fun b hb => ?_) ⟨hz, hTI, ⟨_, _, hTO⟩, hi1, hi2, let ⟨o, e, q⟩ := hl1'; ⟨o, kp _ _ e, q⟩, let ⟨o, e, q⟩ := hl2'; ⟨o, kp _ _ e, q⟩⟩ (fun i h st b hb => ?_) G hmono h0 (fun i v q h tk hi hP S kb hG lv => ?_) done
  · simp only [List.mem_cons, List.not_mem_nil, or_false] at hb
    rcases hb with rfl | rfl | rfl | rfl
    · exact Heap.get?_none_of_le (Nat.le_add_right _ _)
    · exact Heap.get?_none_of_le (Nat.le_add_right _ _)
    · exact Heap.get?_none_of_le (Nat.le_refl _)
    · exact Heap.get?_none_of_le (Nat.le_succ _)
  · simp only [List.mem_cons, List.not_mem_nil, or_false] at hb
    rcases hb with rfl | rfl | rfl | rfl | rfl | rfl | rfl
    · exact nv _ (Nat.le_add_right _ _)
    · exact nv _ (Nat.le_add_right _ _)
    · exact nv _ (Nat.le_add_right _ _)
    · exact nv _ (Nat.le_refl _)
    · exact nv _ (Nat.le_succ _)
    · exact v1
    · exact v2
  · obtain ⟨a1, a2, ⟨_, _, a3⟩, ⟨_, a4, _⟩, ⟨_, a5, _⟩, _⟩ := st
    simp only [List.mem_cons, List.not_mem_nil, or_false] at hb
    rcases hb with rfl | rfl | rfl | rfl
    · exact ⟨_, a1⟩
    · exact ⟨_, a3⟩
    · exact ⟨_, a4⟩
    · exact ⟨_, a5⟩
  · obtain ⟨T, vals, rfl, ⟨x, y, hx, hy, rfl⟩, hT⟩ := hP
    exact step _ i T x y q h tk hx hy hT S kb hG lv
/-- a for over a list -/
theorem forList {target : Expr} {body : List Stmt} {l1 : Addr} {xs : Array Value} {q₀ : LP} {R : Result → Shared → Prop}
    (hh : A.handled = none) (S₀ : LSt w loose mean mg mb L q₀ s.heap) (hl1 : (fx L s.heap).IsList l1 xs)
    (G : Nat → LP → Heap → Prop) (hmono : ∀ i q h h', G i q h → Below h h' → G i q h') (h0 : G 0 q₀ (fx L s.heap))
    (step : ∀ wr i v q h tk, xs[i]? = some v → LSt w loose mean mg mb L q h → Below (fx L s.heap) (fx L h) → G i q (fx L (hideAll h wr)) → (∀ b ∈ wr, ∃ o, h.get? b = some o) →
      wpAny (model PR w) A (assign target (lawE L) v) (fun _ s₂ => wpAny (model PR w) A (execs body (lawE L)) (fun f s₃ => f = .next ∧ ∃ h' tk' q', s₃ = { s with heap := h', toks := tk' } ∧ LSt w loose mean mg mb L q' h' ∧ Below (fx L h) (fx L h') ∧ G (i + 1) q' (fx L (hideAll h' wr))) (fun _ _ => False) s₂) (fun _ _ => False) { s with heap := h, toks := tk })
    (done : ∀ q h tk, LSt w loose mean mg mb L q h → Below (fx L s.heap) (fx L h) → G xs.size q (fx L h) → R (.ok .next) { s with heap := h, toks := tk }) :
    wpAny (model PR w) A (pyIter (.ref l1)) (fun it s₂ => codeAny (model PR w) A (.forLoop target it body [] (lawE L)) R s₂) E s := by
  obtain ⟨o1, e1, r1⟩ := id hl1
  obtain ⟨e1', v1⟩ := hide_get.mp e1
  have lt1 : (l1 : Nat) < s.heap.objs.size := Heap.lt_size e1'
  have hl1' : s.heap.IsList l1 xs := ⟨o1, e1', r1⟩
  have nv : ∀ b : Addr, s.heap.objs.size ≤ b → b ∉ vol L := fun b hb hm => by
    obtain ⟨o, e⟩ := S₀.live b hm
    exact absurd (Heap.lt_size e) (Nat.not_lt.mpr hb)
  refine wpAny_pyIter_list hl1' ?_
  refine forL (h₁ := s.heap.push _) (KTurns.ofWalks (Walks.list hh s.heap.objs.size l1 (Nat.ne_of_lt lt1) xs) fun i v s Q E st q => letGo_listiter st.1 q) S₀ (fun b o e => Heap.get?_push_of_some _ e) (fun b hb => ?_) (fun b hb => ?_) ⟨⟨_, Heap.get?_push_size _ rfl, rfl, rfl⟩, hl1'.push _⟩ (fun i h st b hb => ?_) G hmono h0 (fun i v q h tk hi hP S kb hG lv => step _ i v q h tk hP S kb hG lv) done
  · rw [List.mem_singleton.mp hb]; exact Heap.get?_none_of_le (Nat.le_refl _)
  · rcases List.mem_cons.mp hb with rfl | hb
    · exact nv _ (Nat.le_refl _)
    · rw [List.mem_singleton.mp hb]; exact v1
  · rw [List.mem_singleton.mp hb]
    obtain ⟨o, e, _⟩ := st.1
    exact ⟨o, e⟩
end
end Mine
end
section
open PySem PySem.W PySem.Calls PyProof.Rows
set_option Elab.async false
set_option maxRecDepth 100000
set_option maxHeartbeats 8000000
set_option linter.unusedVariables false
namespace Mine
/-- a thing of the four -/
inductive ThV (x : Th) : Int → Value → Prop
  | k0 (t : Tok) : ThV x 0 (.int x.k0 t)
  | k1 (t : Tok) : ThV x 1 (.int x.k1 t)
  | k2 (t : Tok) : ThV x 2 (.str x.tx t)
  | k3 (t : Tok) : ThV x 3 (.int x.sz t)
theorem inr4' {a : Int} (h : InR a) : a = 0 ∨ a = 1 ∨ a = 2 ∨ a = 3 := by obtain ⟨h1, h2⟩ := h; lia
theorem thV_at {x : Th} {t0 t1 t2 t3 : Tok} {k : Int} (h : InR k) : ∃ v, (#[.int x.k0 t0, .int x.k1 t1, .str x.tx t2, .int x.sz t3] : Array Value)[k.toNat]? = some v ∧ ThV x k v := by
  rcases inr4' h with rfl | rfl | rfl | rfl
  · exact ⟨_, rfl, .k0 _⟩
  · exact ⟨_, rfl, .k1 _⟩
  · exact ⟨_, rfl, .k2 _⟩
  · exact ⟨_, rfl, .k3 _⟩
section
variable {w : World} {loose : List Str} {mean : ExcName → Option Value} {mg mb : Str → Option Value} {A : Around} {E : Value → Shared → Prop} {s : Shared} {env : Env}
/-- one[0][k] -/
theorem oneK {value : Expr} {kk : Str} {p2 p3 p4 p5 : Pos} {a ta : Addr} {fa : Value} {n : Nat} {x : Th} {k : Int} {Q : Value → Shared → Prop}
    (hv : wpAny (model PR w) A (eval value env) (fun v s₁ => v = .ref a ∧ ∃ tk, s₁ = { s with toks := tk }) E s) (ha : s.heap.get? a = some (PySem.W.listOf #[.ref ta, fa] n)) (hth : ThAt s.heap ta x) (hk : InR k)
    (hkk : ∀ tk (Q' : Value → Shared → Prop), (∀ t, Q' (.int k t) { s with toks := tk }) → wpAny (model PR w) A (eval (.Name kk p4) env) Q' E { s with toks := tk })
    (hQ : ∀ v tk, ThV x k v → Q v { s with toks := tk }) :
    wpAny (model PR w) A (eval (.Subscript (.Subscript value (.Constant (.int 0) 0 p2) p3) (.Name kk p4) p5) env) Q E s := by
  obtain ⟨t0, t1, t2, t3, hta⟩ := hth
  obtain ⟨v, hv', hV⟩ := thV_at (x := x) (t0 := t0) (t1 := t1) (t2 := t2) (t3 := t3) hk
  refine subI (l := ta) (k := k) (v := v) (n := 0) (items := #[.int x.k0 t0, .int x.k1 t1, .str x.tx t2, .int x.sz t3]) ?_ hk.1 (by have := hk.2; lia) hv' (fun u => rfl)
  refine subI (l := a) (k := 0) (v := .ref ta) (n := n) (items := #[.ref ta, fa]) ?_ (by decide) (by decide) rfl (fun u => rfl)
  refine wpAny_mono hv (fun o s₁ h₁ => ?_) fun _ _ e => e
  obtain ⟨rfl, tk, rfl⟩ := h₁
  refine conI fun t tk' => ⟨t, rfl, rfl, ha, ?_⟩
  exact hkk _ _ fun t => ⟨t, rfl, rfl, hta, hQ _ _ hV⟩
/-- a captured name -/
theorem nmF {x : Str} {p : Pos} {c : Addr} {v : Value} {Q : Value → Shared → Prop} (hk : env.scope.kind = .function) (hl : env.kindOf x = some .free) (hc : env.cells.lookup x = some c) (hv : s.heap.IsCell c (some v)) (hd : (x == ("__debug__" : Str)) = false) (hn : (x == ("__classdict__" : Str)) = false) (h : Q v s) : wpAny (model PR w) A (eval (.Name x p) env) Q E s :=
  wpAny_Name (wpAny_loadName_free hk hl hc hv h hn) hd
/-- three_way_cmp of two things -/
theorem c_tw {x y : Th} {k : Int} {v v' : Value} {Q : Value → Shared → Prop} (W : Wd w loose mean mg mb s.heap) (r : Rm A 2) (h1 : ThV x k v) (h2 : ThV y k v') (hQ : ∀ t s', St0 s s' → Q (.int (cmp4 x y k) t) s') : wpAny (model PR w) A (call (.ref 21) [v, v']) Q E s := by
  cases h1 with
  | k0 t => cases h2; exact c_twc W r fun t s' h => hQ t s' h
  | k1 t => cases h2; exact c_twc W r fun t s' h => hQ t s' h
  | k2 t => cases h2; exact c_twcs W r fun t s' h => hQ t s' h
  | k3 t => cases h2; exact c_twc W r fun t s' h => hQ t s' h
end
end Mine
end
section
open PySem PySem.W PySem.Calls PyProof.Rows
set_option Elab.async false
set_option maxRecDepth 100000
set_option maxHeartbeats 8000000
set_option linter.unusedVariables false
namespace Mine
noncomputable def thOf (x : Int) : Th := ⟨Builtin.bitAnd (x.fmod 65536) 61440, Builtin.bitAnd (x.fmod 65536) 4095, fmText (x.fmod 65536), (x.fdiv 65536).fmod 3⟩
inductive RowR (xs : List Int) (fs : List Value) (j : Nat) (v : Value) (h : Heap) : Prop
  | mk (a ta : Addr) (fa : Value) (n : Nat) (x : Int) (e1 : v = .ref a) (e2 : h.get? a = some (PySem.W.listOf #[.ref ta, fa] n)) (e3 : fs[j]? = some fa) (e4 : xs[j]? = some x) (e5 : ThAt h ta (thOf x)) : RowR xs fs j v h
theorem rowR_mono (xs : List Int) (fs : List Value) : ∀ i v h h', RowR xs fs i v h → Below h h' → RowR xs fs i v h' := by
  rintro i v h h' ⟨a, ta, fa, n, x, e1, e2, e3, e4, t0, t1, t2, t3, e5⟩ k
  exact ⟨a, ta, fa, n, x, e1, k _ _ e2, e3, e4, t0, t1, t2, t3, k _ _ e5⟩
section
variable {w : World} {loose : List Str} {mean : ExcName → Option Value} {mg mb : Str → Option Value} {A : Around} {E : Value → Shared → Prop} {s : Shared} {L : Addr} {q : LP}
theorem st2 {lf : Addr} {fs : List Value} {xs : List Int} (S : LSt w loose mean mg mb L q s.heap) (r : Rm A 20) (hm : q.m (Str.ofString "files") = some (.ref lf)) (hF : RowsAt (FileR xs) xs.length lf fs (fx L s.heap)) (hsz : xs.length ≤ 60) :
    wpAny (model PR w) A (exec (lawS 2) (lawE L)) (Nx s fun h' => ∃ lt ts, LSt w loose mean mg mb L { q with m := fun z => if z = Str.ofString "told" then some (.ref lt) else q.m z } h' ∧ Below (fx L s.heap) (fx L h') ∧ RowsAt (RowR xs fs) xs.length lt ts (fx L h')) E s := by
  have X := S.X
  have T := S.T
  obtain ⟨Ah, Ad, Af, Ag, Au⟩ := A
  obtain rfl : Ah = none := r.1
  obtain ⟨⟨c, hlf⟩, hlen, hrow⟩ := hF
  refine compA (by kernel_rfl!) (cl := []) ?c1 rfl ?c3 ?c4 ?_
  case c1 => kernel_rfl!
  case c3 => decide
  case c4 => intro; rfl
  refine nmL rfl rfl S.ns hm rfl ?_
  have hl0 : s.heap.IsList lf fs.toArray := ⟨_, of_hideAll _ hlf, rfl, _, rfl⟩
  have fin := finLocal (A := ⟨none, Ad, Af, Ag, Au⟩) (E := E) (y := Str.ofString "told") (py := ⟨111, 4, 111, 8⟩) (k := 0) (n := xs.length) S rfl (rowR_mono xs fs)
  refine srcList (k := 0) rfl hl0 (sz_small (by rw [List.size_toArray]; exact fk2 1 1 1 (.v 0) (.n 64) (.v 1) (.n 60) (.v 0) (.v 1) rfl [_, _] hsz (Nat.le_of_eq hlen))) (fun i v h => RowR xs fs i v (fx L h)) (fun i v h h' x k => rowR_mono xs fs i v _ _ x (fx_below k)) (fun _ => rfl) ?_ (by rw [show fs.toArray.size = xs.length by rw [List.size_toArray, hlen]]; exact fin)
  intro I D C i v h tk hi hx m kb nC hcs lv n0 hsC
  obtain ⟨fa, t1, t2, t3, x, rfl, hxi, hfa⟩ := hrow i v (by simpa using hx)
  refine wpAny_assign_Name (wpAny_storeName_local rfl nC fun h₂ n₂ s₂ => ?_)
  have C0 : s.heap.get? C = none := n0 C (by simp)
  have k2 : ∀ b o, b ≠ C → h.get? b = some o → h₂.get? b = some o := fun b o hb e => (s₂.2 b hb).trans e
  have kb2 : Below s.heap h₂ := fun b o e => k2 b o (fun z => by rw [z, C0] at e; cases e) (kb b o e)
  have n₂' : h₂.Ns C fun z => if z = Str.ofString "file" then some (.ref fa) else m z := n₂
  refine wpAny_List (spliced_cons ?_)
  refine wpAny_Call_Name_kw (ldG X T ((hide_below _ _).trans kb2) rfl rfl rfl (v := .ref 98) (by kernel_rfl!) rfl ?_)
  obtain ⟨o3, fd3, e3, d3⟩ : FnAt 98 (fx L s.heap) := ⟨_, _, X 98 _ (by k_is), rfl⟩
  refine callWith_function_kw (o := o3) (fd := fd3) (Calls.evalArgs_plain (Calls.spliced_cons ?_))
  refine nmL rfl rfl n₂' rfl rfl ?_
  refine Calls.spliced_nil ⟨⟨kb2 _ _ (of_hideAll _ e3), d3⟩, ?_⟩
  refine c_things (of := tabObj #[]) (S.wd.keeps kb2) (r.le (by decide)) (kb2 _ _ (of_hideAll _ hfa)) ?_ ?_
  · exact fun z => (hide_get.mp hfa).2 (by simp [z])
  rintro l a1 a2 a3 a4 s' ⟨h₃, tk₃, rfl, k₃⟩ hl hl0
  replace k₃ : Below h₂ h₃ := k₃
  refine spliced_cons ?_
  refine nmL rfl rfl (n₂'.keeps k₃) rfl rfl ?_
  refine spliced_nil ⟨sz_small (by simp), ?_⟩
  dsimp only
  have up : Below h₃ (h₃.push { cls := .type "list", data := .seq #[.ref l, .ref fa] }) := fun b o e => Heap.get?_push_of_some _ e
  have lv2 := lv_step lv k2 n₂'
  have lvS := lv_step (fun b hb => let ⟨o, e⟩ := S.live b hb; ⟨o, kb b o e⟩) k2 n₂'
  have n3 : h₂.get? h₃.objs.size = none := by
    cases z : h₂.get? h₃.objs.size with
    | none => rfl
    | some o => exact absurd (Heap.lt_size (k₃ _ _ z)) (Nat.lt_irrefl _)
  refine ⟨_, _, _, rfl, fun b o hb e => up _ _ (k₃ _ _ (k2 b o (fun z => hb (z ▸ .head _)) e)), n₂'.keeps (k₃.trans up), fun a ha => by simp [cellsK] at ha, _, l, .ref fa, 0, x, rfl, fresh_in (h := h₂) (Heap.get?_push_size _ rfl) n3 lv2 lvS, by simpa using hx, hxi, a1, a2, a3, a4, fresh_in (h := h₂) (up _ _ hl) hl0 lv2 lvS⟩
end
end Mine
end
section
open PySem PySem.W PySem.Calls PyProof.Rows
set_option Elab.async false
set_option maxRecDepth 100000
set_option maxHeartbeats 8000000
set_option linter.unusedVariables false
namespace Mine
/-- all stands but the frame -/
noncomputable def KpL (L : Addr) (h h' : Heap) : Prop := ∀ b o, b ≠ L → h.get? b = some o → h'.get? b = some o
theorem KpL.trans {L : Addr} {a b c : Heap} (x : KpL L a b) (y : KpL L b c) : KpL L a c := fun p o n e => y p o n (x p o n e)
theorem KpL.of {L : Addr} {a b : Heap} (x : Below a b) : KpL L a b := fun p o _ e => x p o e
theorem KpL.same {L : Addr} {a b : Heap} (x : Heap.SameBut L a b) : KpL L a b := fun p o n e => (x.2 p n).trans e
theorem KpL.hid {L : Addr} {a b : Heap} {av : List Addr} (x : KpL L a b) (hL : L ∈ av) : Below (hideAll a av) (hideAll b av) := fun p o e =>
  let ⟨e1, n⟩ := hide_get.mp e
  hide_get.mpr ⟨x p o (fun z => n (z ▸ hL)) e1, n⟩
section
variable {w : World} {A : Around} {E : Value → Shared → Prop} {s : Shared} {env : Env}
/-- a for over a list, in a frame of locals -/
theorem forN {target : Expr} {body : List Stmt} {a L : Addr} {its : Array Value} {R : Result → Shared → Prop} {m₀ : Str → Option Value}
    (hh : A.handled = none) (hl : s.heap.IsList a its) (ha : a ≠ L) (hn : s.heap.Ns L m₀) (J : Nat → (Str → Option Value) → Heap → Prop) (hmono : ∀ i m h h', J i m h → Below h h' → J i m h') (h0 : J 0 m₀ (hideAll s.heap [L]))
    (step : ∀ (I : Addr) (i : Nat) (v : Value) m h tk, its[i]? = some v → h.Ns L m → KpL L s.heap h → J i m (hideAll h [L, I]) → (∃ o, h.get? I = some o) →
      wpAny (model PR w) A (assign target env v) (fun _ s₂ => wpAny (model PR w) A (execs body env) (fun f s₃ => f = .next ∧ ∃ h' tk' m', s₃ = { s with heap := h', toks := tk' } ∧ h'.Ns L m' ∧ KpL L h h' ∧ J (i + 1) m' (hideAll h' [L, I])) (fun _ _ => False) s₂) (fun _ _ => False) { s with heap := h, toks := tk })
    (done : ∀ m h tk, h.Ns L m → KpL L s.heap h → J its.size m (hideAll h [L]) → R (.ok .next) { s with heap := h, toks := tk }) :
    wpAny (model PR w) A (pyIter (.ref a)) (fun it s₂ => codeAny (model PR w) A (.forLoop target it body [] env) R s₂) E s := by
  obtain ⟨o1, e1, r1⟩ := id hl
  have lt1 : (a : Nat) < s.heap.objs.size := Heap.lt_size e1
  refine wpAny_pyIter_list hl ?_
  generalize hI : s.heap.objs.size = I at *
  have I0 : s.heap.get? I = none := Heap.get?_none_of_le (Nat.le_of_eq hI)
  have IL : I ≠ L := fun z => by obtain ⟨o, _, _, e, _⟩ := hn; rw [z] at I0; rw [I0] at e; cases e
  have up : Below s.heap (s.heap.push { cls := .type "list_iterator", data := .fields #[.ref a, .int 0 0] }) := fun b o e => Heap.get?_push_of_some _ e
  have gI : (s.heap.push { cls := .type "list_iterator", data := .fields #[.ref a, .int 0 0] }).get? I = some { cls := .type "list_iterator", data := .fields #[.ref a, .int 0 0] } := by rw [← hI]; exact Heap.get?_push_size _ rfl
  have aI : a ≠ I := Nat.ne_of_lt lt1
  have W := KTurns.ofWalks (prog := PR) (w := w) (A := A) (target := target) (Walks.list hh I a aI its) fun i v s Q E st q => letGo_listiter st.1 q
  refine codeAny_forLoop_any
    (fun k s' => ∃ h' tk m i, s' = { s with heap := h', toks := tk } ∧ (h'.IsListIter I a i ∧ h'.IsList a its) ∧ h'.Ns L m ∧ KpL L s.heap h' ∧ J i m (hideAll h' [L, I]) ∧ i ≤ its.size ∧ k = its.size + 1 - i) ?_ (its.size + 1)
    ⟨_, s.toks, m₀, 0, rfl, ⟨⟨_, gI, rfl, rfl⟩, ⟨o1, up _ _ e1, r1⟩⟩, hn.keeps up, .of up, hmono _ _ _ _ h0 (fun b o e => ?_), Nat.zero_le _, rfl⟩
  rotate_left
  · obtain ⟨e1, n⟩ := hide_get.mp e
    refine hide_get.mpr ⟨up _ _ e1, fun z => ?_⟩
    simp only [List.mem_cons, List.not_mem_nil, or_false] at z
    rcases z with z | z
    · exact n (by simp [z])
    · rw [z, I0] at e1; cases e1
  rintro k s' ⟨h', tk, m, i, rfl, st', n', kp', hJ, hi, rfl⟩
  have one : ∀ b, b ∉ [I] ↔ b ≠ I := fun b => by simp
  by_cases hlt : i < its.size
  · refine W.item i _ _ _ hlt st' fun v h₂ tk₂ hMd k₂ => ?_
    refine W.go i v _ _ _ hMd fun h₃ hP st₃ k₃ => ?_
    have k23 : ∀ b o, b ≠ I → h'.get? b = some o → h₃.get? b = some o := fun b o hb e => k₃ b o ((one b).mpr hb) (k₂ b o ((one b).mpr hb) e)
    have lv : ∃ o, h₃.get? I = some o := let ⟨o, e, _⟩ := st₃.1; ⟨o, e⟩
    refine wpAny_mono (step I i v m h₃ tk₂ hP (n'.at' fun o e => k23 _ _ IL.symm e) (fun b o n e => k23 b o (fun z => by rw [z, I0] at e; cases e) (kp' b o n e)) (hmono _ _ _ _ hJ fun b o e => ?_) lv) (fun _ s₂ h₂' => wpAny_mono h₂' (fun f s₃ h₃' => ?_) fun _ _ e => e.elim) fun _ _ e => e.elim
    · obtain ⟨e1, n⟩ := hide_get.mp e
      exact hide_get.mpr ⟨k23 _ _ (fun z => n (by simp [z])) e1, n⟩
    obtain ⟨rfl, h₄, tk₄, m₄, rfl, n₄, k₄, J₄⟩ := h₃'
    refine ⟨its.size + 1 - (i + 1), by exact fk2 1 1 1 (.a (.v 0) (.n 1)) (.v 1) (.a (.v 2) (.n 1)) (.a (.v 1) (.v 3)) (.a (.v 0) (.a (.v 3) (.n 1))) (.a (.v 2) (.n 1)) rfl [_, _, _, _] (sb2 _ _) (sb3 (fk1 1 1 (.a (.v 0) (.n 1)) (.a (.v 1) (.n 1)) (.v 0) (.v 1) rfl [_, _] hi)), h₄, tk₄, m₄, i + 1, rfl, ⟨?_, ?_⟩, n₄, fun b o n e => k₄ b o n (k23 b o (fun z => by rw [z, I0] at e; cases e) (kp' b o n e)), J₄, hlt, rfl⟩
    · obtain ⟨o, e, q⟩ := st₃.1; exact ⟨o, k₄ _ _ IL e, q⟩
    · obtain ⟨o, e, q⟩ := st₃.2; exact ⟨o, k₄ _ _ ha e, q⟩
  · have hin : i = its.size := by exact Nat.le_antisymm (fk1 1 1 (.v 0) (.v 1) (.v 0) (.v 1) rfl [_, _] hi) (fk1 1 1 (.v 0) (.v 1) (.v 0) (.v 1) rfl [_, _] (Nat.le_of_not_lt hlt))
    subst hin
    refine W.done _ _ _ st' fun h₂ tk₂ k₂ => ?_
    have k2 : ∀ b o, b ≠ I → h'.get? b = some o → h₂.get? b = some o := fun b o hb e => k₂ b o ((one b).mpr hb) e
    refine wpAny_execs_nil (done m h₂ tk₂ (n'.at' fun o e => k2 _ _ IL.symm e) (fun b o n e => k2 b o (fun z => by rw [z, I0] at e; cases e) (kp' b o n e)) (hmono _ _ _ _ hJ fun b o e => ?_))
    obtain ⟨e1, n⟩ := hide_get.mp e
    exact hide_get.mpr ⟨k2 _ _ (fun z => n (by simp [z])) e1, fun z => n (by simp at z; simp [z])⟩
/-- a slice whose bounds are told step by step -/
theorem sliM {value : Expr} {lower upper : Option Expr} {p pos : Pos} {a : Addr} {vs zs : List Value} {lo hi : Option Int} {h : Heap} {tk : Nat} {Q : Value → Shared → Prop}
    (hv : ∀ Q' : Value → Shared → Prop, Q' (.ref a) { s with heap := h, toks := tk } → wpAny (model PR w) A (eval value env) Q' E { s with heap := h, toks := tk }) (hL : h.IsList a vs.toArray)
    (pl : ∀ tk (Q' : Value → Shared → Prop), (∀ v tk', IsPart v lo → Q' v { s with heap := h, toks := tk' }) → wpAny (model PR w) A (evalPart lower env) Q' E { s with heap := h, toks := tk })
    (pu : ∀ tk (Q' : Value → Shared → Prop), (∀ v tk', IsPart v hi → Q' v { s with heap := h, toks := tk' }) → wpAny (model PR w) A (evalPart upper env) Q' E { s with heap := h, toks := tk })
    (hp : slicePick vs.toArray lo hi none = zs.toArray) (hsz : vs.length ≤ 64)
    (hQ : ∀ D h' tk', Below h h' → h.get? D = none → h'.get? D = some (PySem.W.listOf zs.toArray 0) → Q (.ref D) { s with heap := h', toks := tk' }) :
    wpAny (model PR w) A (eval (.Subscript value (.Slice lower upper none p) pos) env) Q E { s with heap := h, toks := tk } := by
  refine Subscript_ (hv _ (wpAny_Slice (pl _ _ fun v1 tk1 p1 => pu _ _ fun v2 tk2 p2 => wpAny_evalPart_none ?_)))
  dsimp only
  refine tail_any (s := { s with heap := h.push { cls := .type "slice", data := .fields #[v1, v2, .none] }, toks := tk2 }) (ops := [.ref h.objs.size, .ref a]) (Heap.IsList.typeIs (hL.push _)) list_getitem_lookup
    (wpAny_getItem_list_slice (hL.push _) (Heap.IsSliceOf.new ..) p1 p2 .none (by decide) ?_ (sz_small (by rw [List.size_toArray]; exact hsz))) rfl
  rw [hp]
  refine hQ _ _ _ (fun b o e => Heap.get?_push_of_some _ (Heap.get?_push_of_some _ e)) (Heap.get?_none_of_le ?_) (Heap.get?_push_size _ rfl)
  show h.objs.size ≤ (h.push _).objs.size
  rw [Heap.size_push]
  exact Nat.le_succ _
end
end Mine
end
section
open PySem PySem.W PySem.Calls PyProof.Rows
set_option Elab.async false
set_option maxRecDepth 100000
set_option maxHeartbeats 8000000
set_option linter.unusedVariables false
namespace Mine
/-- a join -/
structure Mid (s : Shared) (L : Addr) (news : List (Addr × Obj)) (m : Tok → Str → Option Value) (fl : Flow) (s' : Shared) : Prop where
  mk1 : fl = .next ∧ ∃ h' tk' t, s' = { s with heap := h', toks := tk' } ∧ Fr (gh s.heap) L h' (m t) ∧ News (gh s.heap) L h' news
theorem Mid.of {s : Shared} {L : Addr} {news news' : List (Addr × Obj)} {m : Tok → Str → Option Value} {h' : Heap} {tk' : Nat} {m' : Str → Option Value} (t : Tok) (F : Fr (gh s.heap) L h' m') (N : News (gh s.heap) L h' news') (e : m' = m t) (hs : ∀ p ∈ news, p ∈ news') : Mid s L news m .next { s with heap := h', toks := tk' } :=
  ⟨⟨rfl, h', tk', t, rfl, e ▸ F, fun p hp => N p (hs p hp)⟩⟩

theorem cutM {M : Model} {A : Around} {c : Sem Flow} {Q : Flow → Shared → Prop} {E : Value → Shared → Prop} {s s1 : Shared} {L : Addr} {h : Heap} {m : Str → Option Value} {news : List (Addr × Obj)} (F : Fr (gh s.heap) L h m) (N : News (gh s.heap) L h news)
    (nm : Str) (vf : Tok → Value) (hc : wpAny M A c (Mid s L news (fun t y => if y = nm then some (vf t) else m y)) E s1) (k : ∀ fl s', Mid s L news (fun t y => if y = nm then some (vf t) else m y) fl s' → Q fl s') : wpAny M A c Q E s1 := wpAny_mono hc k fun _ _ e => e
theorem Mid.stS {s : Shared} {L : Addr} {news news' : List (Addr × Obj)} {m : Str → Option Value} {h' : Heap} {tk' : Nat} {nm : Str} {S S' : Str} {t : Tok} (F : Fr (gh s.heap) L h' (fun y => if y = nm then some (.str S t) else m y)) (N : News (gh s.heap) L h' news') (hs : ∀ p ∈ news, p ∈ news') (e : S = S') : Mid s L news (fun t y => if y = nm then some (.str S' t) else m y) .next { s with heap := h', toks := tk' } := by
  subst e
  exact ⟨⟨rfl, h', tk', t, rfl, F, fun p hp => N p (hs p hp)⟩⟩
theorem Mid.stI {s : Shared} {L : Addr} {news news' : List (Addr × Obj)} {m : Str → Option Value} {h' : Heap} {tk' : Nat} {nm : Str} {S S' : Int} {t : Tok} (F : Fr (gh s.heap) L h' (fun y => if y = nm then some (.int S t) else m y)) (N : News (gh s.heap) L h' news') (hs : ∀ p ∈ news, p ∈ news') (e : S = S') : Mid s L news (fun t y => if y = nm then some (.int S' t) else m y) .next { s with heap := h', toks := tk' } := by
  subst e
  exact ⟨⟨rfl, h', tk', t, rfl, F, fun p hp => N p (hs p hp)⟩⟩
/-- the text after i turns -/
noncomputable def sgT (x : Int) : Nat → Str
  | 0 => kindCh x
  | 1 => sg1 x
  | 2 => sg2 x
  | _ => sgText x
noncomputable def sgK (i : Nat) : Int := 2 - (i : Int)
noncomputable def sgLo (i : Nat) : Str := if i = 2 then Str.ofString "t" else Str.ofString "s"
theorem sg_up : ∀ i : Fin 3, (Txt.upper (sgLo i)) = (if i.val = 2 then Str.ofString "T" else Str.ofString "S") ∧ (sgLo i).length = 1 := by decide +kernel
theorem sg_nextT (x : Int) {i : Nat} (hi : i < 3) : sgT x (i + 1) = tx2 (tx1 (sgT x i) ((x.fdiv ((8 : Int) ^ (sgK i).toNat)).fmod 8)) ((x.fdiv ((8 : Int) ^ (sgK i).toNat)).fmod 8) (((x.fdiv 512).fdiv ((2 : Int) ^ (sgK i).toNat)).fmod 2) (lstS ((x.fdiv ((8 : Int) ^ (sgK i).toNat)).fmod 8) (sgLo i) (Txt.upper (sgLo i))) := by
  have h := (sg_up ⟨i, hi⟩).1
  match i, hi, h with
  | 0, _, h => rw [h]; rfl
  | 1, _, h => rw [h]; rfl
  | 2, _, h => rw [h]; rfl
theorem sg_pw {i : Nat} (hi : i < 3) : 0 ≤ sgK i ∧ sgK i ≤ 2 ∧ (8 : Int) ^ (sgK i).toNat ≠ 0 ∧ ((8 : Int) ^ (sgK i).toNat).natAbs.log2 / 30 + 1 ≤ 300 ∧ (2 : Int) ^ (sgK i).toNat ≠ 0 ∧ ((2 : Int) ^ (sgK i).toNat).natAbs.log2 / 30 + 1 ≤ 300 := by
  match i, hi with
  | 0, _ => decide
  | 1, _ => decide
  | 2, _ => decide
theorem sg_len (x : Int) : ∀ {i : Nat}, i ≤ 3 → (sgT x i).length ≤ 1 + 3 * i
  | 0, _ => len_kindCh x
  | i + 1, hi => by
    rw [sg_nextT x (by lia)]
    have h1 := sg_len x (i := i) (by lia)
    have h2 := len_tx1 (sgT x i) ((x.fdiv ((8 : Int) ^ (sgK i).toNat)).fmod 8)
    have u := sg_up ⟨i, by lia⟩
    have h3 := len_tx2 (tx1 (sgT x i) ((x.fdiv ((8 : Int) ^ (sgK i).toNat)).fmod 8)) ((x.fdiv ((8 : Int) ^ (sgK i).toNat)).fmod 8) (((x.fdiv 512).fdiv ((2 : Int) ^ (sgK i).toNat)).fmod 2) (lstS ((x.fdiv ((8 : Int) ^ (sgK i).toNat)).fmod 8) (sgLo i) (Txt.upper (sgLo i))) (len_lst _ _ _ u.2 (by rw [u.1]; split <;> rfl))
    lia
noncomputable def sgSc : Scope := (dfOf (PR.main.body.getD 33 (.Pass ⟨0, 0, 0, 0⟩))).2
noncomputable def sgFor : Expr × List Stmt := match (dfOf (PR.main.body.getD 33 (.Pass ⟨0, 0, 0, 0⟩))).1.getD 1 (.Pass ⟨0, 0, 0, 0⟩) with
  | .For t _ b _ _ => (t, b)
  | _ => (.Constant .none 0 ⟨0, 0, 0, 0⟩, [])
section
variable {w : World} {loose : List Str} {mean : ExcName → Option Value} {mg mb : Str → Option Value} {A : Around} {s : Shared} {Q E : Value → Shared → Prop}
/-- a test of an int, then one of two -/
theorem ifI {env : Env} {test body orelse : Expr} {pos : Pos} {c : Prop} [Decidable c] {x y : Str} {h : Heap} {tk : Nat} {Q : Value → Shared → Prop}
    (ht : ∀ (Q' : Bool → Shared → Prop), (∀ tk', Q' (decide c) { s with heap := h, toks := tk' }) → wpAny (model PR w) A (isTrue test env (eval test env)) Q' E { s with heap := h, toks := tk })
    (h1 : ∀ tk (Q' : Value → Shared → Prop), (∀ t tk', Q' (.str x t) { s with heap := h, toks := tk' }) → wpAny (model PR w) A (eval body env) Q' E { s with heap := h, toks := tk })
    (h2 : ∀ tk (Q' : Value → Shared → Prop), (∀ t tk', Q' (.str y t) { s with heap := h, toks := tk' }) → wpAny (model PR w) A (eval orelse env) Q' E { s with heap := h, toks := tk })
    (hQ : ∀ t tk', Q (.str (if c then x else y) t) { s with heap := h, toks := tk' }) : wpAny (model PR w) A (eval (.IfExp test body orelse pos) env) Q E { s with heap := h, toks := tk } := by
  refine wpAny_IfExp (ht _ fun tk' => ?_)
  by_cases hc : c
  · rw [if_pos (by simpa using hc)]
    exact h1 _ _ fun t tk' => by have := hQ t tk'; rwa [if_pos hc] at this
  · rw [if_neg (by simpa using hc)]
    exact h2 _ _ fun t tk' => by have := hQ t tk'; rwa [if_neg hc] at this
theorem conS {env : Env} {x : Str} {k : Nat} {p : Pos} {Q : Value → Shared → Prop} (h : ∀ t tk, Q (.str x t) { s with toks := tk }) : wpAny (model PR w) A (eval (.Constant (.str x) k p) env) Q E s := wpAny_Constant_str (h _ _)
/-- one turn of the signs -/
theorem sg_turn {env : Env} {x : Int} {i : Nat} {L l : Addr} {m : Str → Option Value} {h : Heap} {tk : Nat} {t1 t2 tx tt : Tok} {body : List Stmt} {target : Expr} (hh : A.handled = none) (hi : i < 3) (he : env = envX (Str.ofString "_law_signs") sgSc L 110 (.ref 109) []) (hb : (target, body) = sgFor)
    (hl : h.IsList l #[.int (sgK i) t1, .str (sgLo i) t2]) (hn : h.Ns L m) (hm : m (Str.ofString "mode") = some (.int x tx)) (ht : m (Str.ofString "text") = some (.str (sgT x i) tt)) :
    wpAny (model PR w) A (assign target env (.ref l)) (fun _ s₂ => wpAny (model PR w) A (execs body env) (fun f s₃ => f = .next ∧ ∃ h' tk' m', s₃ = { s with heap := h', toks := tk' } ∧ h'.Ns L m' ∧ KpL L h h' ∧ m' (Str.ofString "mode") = some (.int x tx) ∧ ∃ t', m' (Str.ofString "text") = some (.str (sgT x (i + 1)) t')) (fun _ _ => False) s₂) (fun _ _ => False) { s with heap := h, toks := tk } := by
  subst he
  cases hb
  obtain ⟨k0, k2, p1, p2, p3, p4⟩ := sg_pw hi
  refine asgW2 hh hl fun h1 kb1 => ?_
  replace kb1 : Below h h1 := kb1
  refine wpAny_storeName_local rfl (hn.keeps kb1) fun h2 n2 s2 => wpAny_storeName_local rfl n2 fun h3 n3 s3 => ?_
  have n3' : h3.Ns L fun z => if z = Str.ofString "more" then some (.str (sgLo i) t2) else if z = Str.ofString "k" then some (.int (sgK i) t1) else m z := n3
  have kp3 : KpL L h h3 := ((KpL.of kb1).trans (.same s2)).trans (.same s3)
  clear n3 n2
  have u := sg_up ⟨i, hi⟩
  have hlen := sg_len x (i := i) (by lia)
  rw [sg_nextT x hi]
  generalize hth : (x.fdiv ((8 : Int) ^ (sgK i).toNat)).fmod 8 = th
  generalize sgT x i = T0 at *
  have z1 := len_tx1 T0 th
  have u2 : (sgLo i).length = 1 := u.2
  have u1 : (Txt.upper (sgLo i)).length = 1 := by have := u.1; simp only at this; rw [this]; split <;> rfl
  generalize sgLo i = lo at *
  generalize sgK i = kk at *
  have zl := len_lst th lo (Txt.upper lo) u2 u1
  have str1 : ∀ c : Prop, ∀ _ : Decidable c, ∀ a b : Str, a.length ≤ 1 → b.length ≤ 1 → (if c then a else b).length ≤ 1 := fun c _ a b h1 h2 => len_ite h1 h2
  -- three
  refine wpAny_execs_cons (wpAny_Assign_Name ?_ (by kernel_rfl!))
  refine wpAny_BinOp (wpAny_BinOp (nmL rfl rfl n3' hm rfl (wpAny_BinOp (conI fun _ _ => nmL rfl rfl n3' rfl rfl (PyProof.Rows.pow_int_small k0 (by lia) (by decide) ?_)))))
  refine divI p1 p2 fun _ _ => conI fun _ _ => modI (by decide) fun t3 _ => ?_
  refine wpAny_storeName_local rfl n3' fun h4 n4 s4 => ?_
  have n4' : h4.Ns L fun z => if z = Str.ofString "three" then some (.int th t3) else if z = Str.ofString "more" then some (.str lo t2) else if z = Str.ofString "k" then some (.int kk t1) else m z := hth ▸ n4
  clear n4 n3'
  dsimp only
  -- last
  refine wpAny_execs_cons (wpAny_Assign_Name ?_ (by kernel_rfl!))
  refine ifI (c := th.fmod 2 = 1) (x := lo) (y := Txt.upper lo) (fun Q' hq => wpAny_isTrue_Compare1 (wpAny_BinOp (nmL rfl rfl n4' rfl rfl (conI fun _ _ => modI (by decide) fun _ _ => conI fun _ _ => PyProof.Rows.eq_int (wpAny_truthy_bool (hq _)))))) (fun tk Q' hq => nmL rfl rfl n4' rfl rfl (hq _ _)) (fun tk Q' hq => ?_) fun t4 _ => ?_
  · refine MethodCall_ (nmL rfl rfl n4' rfl rfl (GM.upper ?_))
    exact callWith_method0 (SCL.upper (by lia) fun _ => hq _ _)
  refine wpAny_storeName_local rfl n4' fun h5 n5 s5 => ?_
  have n5' : h5.Ns L fun z => if z = Str.ofString "last" then some (.str (lstS th lo (Txt.upper lo)) t4) else if z = Str.ofString "three" then some (.int th t3) else if z = Str.ofString "more" then some (.str lo t2) else if z = Str.ofString "k" then some (.int kk t1) else m z := n5
  clear n5 n4'
  generalize lstS th lo (Txt.upper lo) = ls at *
  dsimp only
  -- text, the first two
  refine wpAny_execs_cons (wpAny_Assign_Name ?_ (by kernel_rfl!))
  refine wpAny_BinOp (wpAny_BinOp (nmL rfl rfl n5' ht rfl ?_))
  refine ifI (c := 3 < th) (x := Str.ofString "r") (y := Str.ofString "-") (fun Q' hq => wpAny_isTrue_Compare1 (nmL rfl rfl n5' rfl rfl (conI fun _ _ => PyProof.Rows.gt_int (wpAny_truthy_bool (hq _))))) (fun tk Q' hq => conS fun _ _ => hq _ _) (fun tk Q' hq => conS fun _ _ => hq _ _) fun _ _ => ?_
  have y1 := str1 (3 < th) inferInstance (Str.ofString "r") (Str.ofString "-") (Nat.le_of_eq rfl) (Nat.le_of_eq rfl)
  refine PyProof.Rows.add_str (fun _ _ => ?_) (sz_small (by lia))
  refine ifI (c := (th.fdiv 2).fmod 2 = 1) (x := Str.ofString "w") (y := Str.ofString "-") (fun Q' hq => wpAny_isTrue_Compare1 (wpAny_BinOp (wpAny_BinOp (nmL rfl rfl n5' rfl rfl (conI fun _ _ => divI (by decide) (by decide) fun _ _ => conI fun _ _ => modI (by decide) fun _ _ => conI fun _ _ => PyProof.Rows.eq_int (wpAny_truthy_bool (hq _))))))) (fun tk Q' hq => conS fun _ _ => hq _ _) (fun tk Q' hq => conS fun _ _ => hq _ _) fun _ _ => ?_
  have y2 := str1 ((th.fdiv 2).fmod 2 = 1) inferInstance (Str.ofString "w") (Str.ofString "-") (Nat.le_of_eq rfl) (Nat.le_of_eq rfl)
  refine PyProof.Rows.add_str (fun t5 _ => ?_) (sz_small (by rw [len_app]; lia))
  refine wpAny_storeName_local rfl n5' fun h6 n6 s6 => ?_
  have n6' : h6.Ns L fun z => if z = Str.ofString "text" then some (.str (tx1 T0 th) t5) else if z = Str.ofString "last" then some (.str ls t4) else if z = Str.ofString "three" then some (.int th t3) else if z = Str.ofString "more" then some (.str lo t2) else if z = Str.ofString "k" then some (.int kk t1) else m z := n6
  clear n6 n5'
  generalize tx1 T0 th = T1 at *
  dsimp only
  -- text, the third
  refine wpAny_execs_cons (wpAny_Assign_Name ?_ (by kernel_rfl!))
  refine wpAny_BinOp (nmL rfl rfl n6' rfl rfl ?_)
  refine ifI (c := ((x.fdiv 512).fdiv ((2 : Int) ^ kk.toNat)).fmod 2 = 1) (x := ls) (y := if th.fmod 2 = 1 then Str.ofString "x" else Str.ofString "-") (fun Q' hq => wpAny_isTrue_Compare1 (wpAny_BinOp (wpAny_BinOp (wpAny_BinOp (nmL rfl rfl n6' hm rfl (conI fun _ _ => divI (by decide) (by decide) fun _ _ => wpAny_BinOp (conI fun _ _ => nmL rfl rfl n6' rfl rfl (PyProof.Rows.pow_int_small k0 (by lia) (by decide) (divI p3 p4 fun _ _ => conI fun _ _ => modI (by decide) fun _ _ => conI fun _ _ => PyProof.Rows.eq_int (wpAny_truthy_bool (hq _))))))))))) (fun tk Q' hq => nmL rfl rfl n6' rfl rfl (hq _ _))
    (fun tk Q' hq => ifI (c := th.fmod 2 = 1) (x := Str.ofString "x") (y := Str.ofString "-") (fun Q' hq => wpAny_isTrue_Compare1 (wpAny_BinOp (nmL rfl rfl n6' rfl rfl (conI fun _ _ => modI (by decide) fun _ _ => conI fun _ _ => PyProof.Rows.eq_int (wpAny_truthy_bool (hq _)))))) (fun tk Q' hq => conS fun _ _ => hq _ _) (fun tk Q' hq => conS fun _ _ => hq _ _) fun _ _ => hq _ _) fun _ _ => ?_
  have y3 := str1 (((x.fdiv 512).fdiv ((2 : Int) ^ kk.toNat)).fmod 2 = 1) inferInstance ls (if th.fmod 2 = 1 then Str.ofString "x" else Str.ofString "-") zl (str1 _ inferInstance _ _ (Nat.le_of_eq rfl) (Nat.le_of_eq rfl))
  refine PyProof.Rows.add_str (fun t6 _ => ?_) (sz_small (by lia))
  refine wpAny_storeName_local rfl n6' fun h7 n7 s7 => ?_
  exact wpAny_execs_nil ⟨rfl, h7, _, _, rfl, n7, (((kp3.trans (.same s4)).trans (.same s5)).trans (.same s6)).trans (.same s7), hm, t6, rfl⟩
theorem c_signs {x : Int} {tx : Tok} (W : Wd w loose mean mg mb s.heap) (r : Rm A 6)
    (hQ : ∀ t s', St0 s s' → Q (.str (sgText x) t) s') : wpAny (model PR w) A (call (.ref 110) [.int x tx]) Q E s := by
  have X := W.X
  have T := W.T
  obtain ⟨Ah, Ad, Af, Ag, Au⟩ := A
  obtain rfl : Ah = none := r.1
  refine enter W r (X _ _ (by k_is)) rfl (codeRec_of X (by k_is)) (BindsTo.of_eq rfl) (locs rfl) ?_
  intro ps h₁ tk V h100 r' x₁ F N
  have em : (fun y => List.lookup y [(Str.ofString "mode", Value.int x tx)]) = fun y => if y = Str.ofString "mode" then some (.int x tx) else none := funext fun y => lookup1
  have F2 : Fr (gh s.heap) s.heap.objs.size h₁ (fun y => List.lookup y [(Str.ofString "mode", Value.int x tx)]) := F
  rw [em] at F2
  clear F
  walk1
  refine cut (P := Mid s s.heap.objs.size [(100, tabObj ps)] (fun t y => if y = Str.ofString "text" then some (.str (kindCh x) t) else if y = Str.ofString "mode" then some (.int x tx) else none)) ?_ ?_
  · k_steps
    all_goals (rename Fr _ _ _ _ => Fy; rename News _ _ _ _ => Ny; refine Mid.stS Fy Ny (fun _ h => List.mem_cons_of_mem _ h) ?_; simp only [kindCh]; (repeat (first | rw [if_pos (by assumption)] | rw [if_neg (by assumption)])))
  rintro fl s' ⟨⟨rfl, h₃, tk₃, t₃, rfl, F₃, N₃⟩⟩
  clear F2 N
  have hns := F₃.ns
  have kb : Below s.heap h₃ := fun b o e => by
    by_cases hb : b = 100
    · rw [hb, h100] at e; cases e; rw [hb]; exact (N₃ (100, tabObj ps) (by simp)).1
    · exact F₃.keep b o (gh_ne e hb)
  clear F₃ N₃ x₁ V
  generalize hL : s.heap.objs.size = L at *
  have L0 : s.heap.get? L = none := Heap.get?_none_of_le (Nat.le_of_eq hL)
  dsimp only at hns ⊢
  refine wpAny_execs_cons (wpAny_For ?_)
  refine wpAny_List (spliced_cons (wpAny_List (spliced_cons (conI (p := ⟨94, 21, 94, 22⟩) (k := 0) fun a1 _ => spliced_cons (conS (p := ⟨94, 24, 94, 27⟩) (k := 0) fun a2 _ => spliced_nil ⟨sz_small (by simp), ?_⟩)))))
  dsimp only
  generalize hHa : h₃.push { cls := .type "list", data := .seq [Value.int 2 a1, Value.str (Str.ofString "s") a2].toArray } = ha
  have upa : Below h₃ ha := by rw [← hHa]; exact fun b o e => Heap.get?_push_of_some _ e
  have ea : ha.get? h₃.objs.size = some (PySem.W.listOf [Value.int 2 a1, Value.str (Str.ofString "s") a2].toArray 0) := by rw [← hHa]; exact Heap.get?_push_size _ rfl
  refine spliced_cons (wpAny_List (spliced_cons (conI (p := ⟨94, 31, 94, 32⟩) (k := 0) fun b1 _ => spliced_cons (conS (p := ⟨94, 34, 94, 37⟩) (k := 0) fun b2 _ => spliced_nil ⟨sz_small (by simp), ?_⟩))))
  dsimp only
  generalize hHb : ha.push { cls := .type "list", data := .seq [Value.int 1 b1, Value.str (Str.ofString "s") b2].toArray } = hb
  have upb : Below ha hb := by rw [← hHb]; exact fun b o e => Heap.get?_push_of_some _ e
  have eb : hb.get? ha.objs.size = some (PySem.W.listOf [Value.int 1 b1, Value.str (Str.ofString "s") b2].toArray 0) := by rw [← hHb]; exact Heap.get?_push_size _ rfl
  refine spliced_cons (wpAny_List (spliced_cons (conI (p := ⟨94, 41, 94, 42⟩) (k := 0) fun c1 _ => spliced_cons (conS (p := ⟨94, 44, 94, 47⟩) (k := 0) fun c2 _ => spliced_nil ⟨sz_small (by simp), ?_⟩))))
  dsimp only
  generalize hHc : hb.push { cls := .type "list", data := .seq [Value.int 0 c1, Value.str (Str.ofString "t") c2].toArray } = hc
  have upc : Below hb hc := by rw [← hHc]; exact fun b o e => Heap.get?_push_of_some _ e
  have ec : hc.get? hb.objs.size = some (PySem.W.listOf [Value.int 0 c1, Value.str (Str.ofString "t") c2].toArray 0) := by rw [← hHc]; exact Heap.get?_push_size _ rfl
  refine spliced_nil ⟨sz_small (by simp), ?_⟩
  dsimp only
  have n1 : h₃.objs.size ≠ L := fun z => by have := hns.lt; rw [z] at this; exact absurd this (Nat.lt_irrefl _)
  have n2 : ha.objs.size ≠ L := fun z => by have := (hns.keeps upa).lt; rw [z] at this; exact absurd this (Nat.lt_irrefl _)
  have n3 : hb.objs.size ≠ L := fun z => by have := (hns.keeps (upa.trans upb)).lt; rw [z] at this; exact absurd this (Nat.lt_irrefl _)
  have n4 : hc.objs.size ≠ L := fun z => by have := (hns.keeps ((upa.trans upb).trans upc)).lt; rw [z] at this; exact absurd this (Nat.lt_irrefl _)
  generalize h₃.objs.size = la at *
  generalize ha.objs.size = lb at *
  generalize hb.objs.size = lc at *
  generalize hHd : hc.push { cls := .type "list", data := .seq [Value.ref la, Value.ref lb, Value.ref lc].toArray } = hd'
  have upd : Below hc hd' := by rw [← hHd]; exact fun b o e => Heap.get?_push_of_some _ e
  have ed : hd'.get? hc.objs.size = some (PySem.W.listOf [Value.ref la, Value.ref lb, Value.ref lc].toArray 0) := by rw [← hHd]; exact Heap.get?_push_size _ rfl
  have items : ∀ (i : Nat) v, ([Value.ref la, Value.ref lb, Value.ref lc].toArray : Array Value)[i]? = some v → ∃ l u1 u2, i < 3 ∧ v = .ref l ∧ l ≠ L ∧ hd'.get? l = some (PySem.W.listOf [Value.int (sgK i) u1, Value.str (sgLo i) u2].toArray 0) := by
    intro i v h
    match i, h with
    | 0, h => cases h; exact ⟨la, a1, a2, by decide, rfl, n1, upd _ _ (upc _ _ (upb _ _ ea))⟩
    | 1, h => cases h; exact ⟨lb, b1, b2, by decide, rfl, n2, upd _ _ (upc _ _ eb)⟩
    | 2, h => cases h; exact ⟨lc, c1, c2, by decide, rfl, n3, upd _ _ ec⟩
    | i + 3, h => simp at h
  have kd : Below h₃ hd' := ((upa.trans upb).trans upc).trans upd
  refine forN (s := { s with heap := hd', toks := _ }) (L := L) rfl ⟨_, ed, rfl, _, rfl⟩ n4 (hns.keeps kd) (fun i m _ => m (Str.ofString "mode") = some (.int x tx) ∧ ∃ t, m (Str.ofString "text") = some (.str (sgT x i) t)) (fun _ _ _ _ j _ => j) ⟨rfl, t₃, rfl⟩ ?_ ?_
  · rintro I i v m h tk hv hn kp ⟨jm, jt, jtt⟩ _
    replace kp : KpL L hd' h := kp
    obtain ⟨l, u1, u2, hi, rfl, nl, el⟩ := items i v hv
    exact wpAny_mono (sg_turn (s := s) (target := sgFor.1) (body := sgFor.2) rfl hi rfl rfl ⟨_, kp _ _ nl el, rfl, _, rfl⟩ hn jm jtt) (fun _ s₂ g => g) fun _ _ e => e
  · rintro m h tk hn kp ⟨jm, t, jt⟩
    replace kp : KpL L hd' h := kp
    refine wpAny_execs_cons (wpAny_Return_some (nmL rfl rfl hn jt rfl ?_))
    exact hQ t _ ⟨h, tk, rfl, fun b o e => kp b o (fun z => by rw [z, L0] at e; cases e) (kd _ _ (kb b o e))⟩
end
end Mine
end
section
open PySem PySem.W PySem.Calls PyProof.Rows
set_option Elab.async false
set_option maxRecDepth 100000
set_option maxHeartbeats 8000000
set_option linter.unusedVariables false
namespace Mine
section
variable {w : World} {loose : List Str} {mean : ExcName → Option Value} {mg mb : Str → Option Value} {A : Around} {s : Shared} {Q E : Value → Shared → Prop}

theorem c_own {f : Addr} {md sz : Int} {t1 t2 : Tok} {pl : Value} (W : Wd w loose mean mg mb s.heap) (r : Rm A 8) (hf0 : s.heap.get? f = some (PySem.W.listOf #[.int md t1, .int sz t2, pl] 0)) (hf1 : f ≠ 100)
    (hQ : ∀ l a b c d s', St0 s s' → s'.heap.get? l = some (PySem.W.listOf #[.int (md.fdiv 4096 * 4096) a, .int (md.fmod 4096) b, .str (sgText md) c, .int sz d] 0) → s.heap.get? l = none → Q (.ref l) s') : wpAny (model PR w) A (call (.ref 117) [.ref f]) Q E s := by
  have X := W.X
  have T := W.T
  obtain ⟨Ah, Ad, Af, Ag, Au⟩ := A
  obtain rfl : Ah = none := r.1
  refine enter W r (X _ _ (by k_is)) rfl (codeRec_of X (by k_is)) (BindsTo.of_eq rfl) (locs rfl) ?_
  intro ps h₁ tk V h100 r' x₁ F N
  have hf : h₁.IsList f #[.int md t1, .int sz t2, pl] := ⟨_, F.keep _ _ (gh_ne hf0 hf1), rfl, _, rfl⟩
  k_steps
  (rename Fr _ _ _ _ => Fq; rename News _ _ _ _ => Nq; refine c_signs (W.mid Fq Nq V (by simp)) (r'.le (by decide)) ?_; rintro tq sq ⟨hq, tkq, rfl, kq⟩; have Fq' := Fq.keeps kq; have Nq' := Nq.grown kq; clear Fq Nq kq; dsimp only)
  k_steps
  rename Fr _ _ _ _ => Fq; rename News _ _ _ _ => Nq; rename (100 : Nat) < _ => hl
  exact hQ _ _ _ _ _ _ (leave0 Fq Nq h100 (by simp)) (Nq _ (.head _)).1 (fresh_of Nq (.head _) (Nat.ne_of_gt hl))
end
end Mine
end
section
open PySem PySem.W PySem.Calls PyProof.Rows
set_option Elab.async false
set_option maxRecDepth 100000
set_option maxHeartbeats 8000000
set_option linter.unusedVariables false
namespace Mine
theorem RowsAt.mono {R : Nat → Value → Heap → Prop} {n : Nat} {l : Addr} {vs : List Value} {h h' : Heap} (x : RowsAt R n l vs h) (hmono : ∀ i v h h', R i v h → Below h h' → R i v h') (k : Below h h') : RowsAt R n l vs h' :=
  let ⟨⟨c, e⟩, l, r⟩ := x; ⟨⟨c, k _ _ e⟩, l, fun j v q => hmono _ _ _ _ (r j v q) k⟩
section
variable {w : World} {loose : List Str} {mean : ExcName → Option Value} {mg mb : Str → Option Value} {A : Around} {E : Value → Shared → Prop} {s : Shared} {L : Addr} {q : LP}
/-- its end, in the law's own frame -/
theorem finE {k n : Nat} {R : Nat → Value → Heap → Prop} {Q : Value → Shared → Prop} (S : LSt w loose mean mg mb L q s.heap) (hmono : ∀ i v h h', R i v h → Below h h' → R i v h')
    (hQ : ∀ D ys h' tk', s.heap.get? D = none → LSt w loose mean mg mb L q h' → Below (fx L s.heap) (fx L h') → RowsAt R n D ys (fx L h') → Q (.ref D) { s with heap := h', toks := tk' }) :
    FinM s k n (fun i v h => R i v (fx L h)) (compPost (model PR w) A E none Q) := by
  intro D C ys h h₂ tk m hl hR hb hC2 hD2 hsb pl nC hC hD dc
  have S1 := S.grown hsb
  have dv : D ∉ vol L := fun hm => by obtain ⟨o, e⟩ := S.live D hm; rw [hD] at e; cases e
  refine ⟨m, nC, fun h₄ s₄ => ?_⟩
  obtain ⟨S4, k4⟩ := LSt.skip S S1 (fx_below hsb) hC nC s₄
  have k24 : Below (fx L h₂) (fx L h₄) := fun b o e => by
    obtain ⟨e1, n1⟩ := hide_get.mp (fx_below hb b o e)
    exact hide_get.mpr ⟨(s₄.2 b (fun z => by rw [z] at e; rw [of_hideAll _ e] at hC2; cases hC2)).trans e1, n1⟩
  obtain ⟨cz, ez⟩ := pl
  exact hQ D ys h₄ _ hD S4 k4 ⟨⟨cz, hide_get.mpr ⟨(s₄.2 D dc).trans ez, dv⟩⟩, hl, fun j v e => hmono _ _ _ _ (hR j v e) k24⟩
theorem st5 {lf : Addr} {fs : List Value} {xs : List Int} (S : LSt w loose mean mg mb L q s.heap) (r : Rm A 20) (hm : q.m (Str.ofString "files") = some (.ref lf)) (hF : RowsAt (FileR xs) xs.length lf fs (fx L s.heap)) (hsz : xs.length ≤ 60) :
    wpAny (model PR w) A (exec (lawS 5) (lawE L)) (Nx s fun h' => ∃ lt ts, LSt w loose mean mg mb L { q with c3 := some (.ref lt) } h' ∧ Below (fx L s.heap) (fx L h') ∧ RowsAt (RowR xs fs) xs.length lt ts (fx L h')) E s := by
  have X := S.X
  have T := S.T
  obtain ⟨Ah, Ad, Af, Ag, Au⟩ := A
  obtain rfl : Ah = none := r.1
  obtain ⟨⟨c, hlf⟩, hlen, hrow⟩ := hF
  refine wpAny_Assign_Name ?_ (by kernel_rfl!)
  refine compE (cl := []) ?c1 rfl ?c3 ?c4 ?_
  case c1 => kernel_rfl!
  case c3 => decide
  case c4 => intro; rfl
  refine nmL rfl rfl S.ns hm rfl ?_
  have hl0 : s.heap.IsList lf fs.toArray := ⟨_, of_hideAll _ hlf, rfl, _, rfl⟩
  refine srcList (k := 0) rfl hl0 (sz_small (by rw [List.size_toArray]; exact fk2 1 1 1 (.v 0) (.n 64) (.v 1) (.n 60) (.v 0) (.v 1) rfl [_, _] hsz (Nat.le_of_eq hlen))) (fun i v h => RowR xs fs i v (fx L h)) (fun i v h h' x k => rowR_mono xs fs i v _ _ x (fx_below k)) (fun _ => rfl) ?_ ?_
  rotate_left
  · refine finE S (rowR_mono xs fs) fun D ys h' tk' _ S' k' R' => ?_
    refine wpAny_storeName_cell rfl rfl (lawE_due L) S'.i3 (fun h₃ n₃ s₃ => ?_)
    obtain ⟨S3, k3⟩ := S'.set3 n₃ s₃
    rw [show fs.toArray.size = xs.length by rw [List.size_toArray, hlen]] at R'
    exact ⟨rfl, h₃, _, rfl, D, ys, S3, k'.trans k3, R'.mono (rowR_mono xs fs) k3⟩
  intro I D C i v h tk hi hx m kb nC hcs lv n0 hsC
  obtain ⟨fa, t1, t2, t3, x, rfl, hxi, hfa⟩ := hrow i v (by simpa using hx)
  refine wpAny_assign_Name (wpAny_storeName_local rfl nC fun h₂ n₂ s₂ => ?_)
  have C0 : s.heap.get? C = none := n0 C (by simp)
  have k2 : ∀ b o, b ≠ C → h.get? b = some o → h₂.get? b = some o := fun b o hb e => (s₂.2 b hb).trans e
  have kb2 : Below s.heap h₂ := fun b o e => k2 b o (fun z => by rw [z, C0] at e; cases e) (kb b o e)
  have n₂' : h₂.Ns C fun z => if z = Str.ofString "file" then some (.ref fa) else m z := n₂
  refine wpAny_List (spliced_cons ?_)
  refine wpAny_Call_Name_kw (ldG X T ((hide_below _ _).trans kb2) rfl rfl rfl (v := .ref 117) (by kernel_rfl!) rfl ?_)
  obtain ⟨o3, fd3, e3, d3⟩ : FnAt 117 (fx L s.heap) := ⟨_, _, X 117 _ (by k_is), rfl⟩
  refine callWith_function_kw (o := o3) (fd := fd3) (Calls.evalArgs_plain (Calls.spliced_cons ?_))
  refine nmL rfl rfl n₂' rfl rfl ?_
  refine Calls.spliced_nil ⟨⟨kb2 _ _ (of_hideAll _ e3), d3⟩, ?_⟩
  refine c_own (S.wd.keeps kb2) (r.le (by decide)) (kb2 _ _ (of_hideAll _ hfa)) ?_ ?_
  · exact fun z => (hide_get.mp hfa).2 (by simp [z])
  rintro l a1 a2 a3 a4 s' ⟨h₃, tk₃, rfl, k₃⟩ hl hl0
  replace k₃ : Below h₂ h₃ := k₃
  obtain ⟨te1, te2, te3⟩ := things_eq (x := x.fmod 65536) (Int.fmod_nonneg_of_pos _ (by decide)) (Int.fmod_lt_of_pos _ (by decide))
  rw [← te1, ← te2, ← te3] at hl
  refine spliced_cons ?_
  refine nmL rfl rfl (n₂'.keeps k₃) rfl rfl ?_
  refine spliced_nil ⟨sz_small (by simp), ?_⟩
  dsimp only
  have up : Below h₃ (h₃.push { cls := .type "list", data := .seq #[.ref l, .ref fa] }) := fun b o e => Heap.get?_push_of_some _ e
  have lv2 := lv_step lv k2 n₂'
  have lvS := lv_step (fun b hb => let ⟨o, e⟩ := S.live b hb; ⟨o, kb b o e⟩) k2 n₂'
  have n3 : h₂.get? h₃.objs.size = none := by
    cases z : h₂.get? h₃.objs.size with
    | none => rfl
    | some o => exact absurd (Heap.lt_size (k₃ _ _ z)) (Nat.lt_irrefl _)
  refine ⟨_, _, _, rfl, fun b o hb e => up _ _ (k₃ _ _ (k2 b o (fun z => hb (z ▸ .head _)) e)), n₂'.keeps (k₃.trans up), fun a ha => by simp [cellsK] at ha, _, l, .ref fa, 0, x, rfl, fresh_in (h := h₂) (Heap.get?_push_size _ rfl) n3 lv2 lvS, by simpa using hx, hxi, a1, a2, a3, a4, fresh_in (h := h₂) (up _ _ hl) hl0 lv2 lvS⟩
end
end Mine
end
section
open PySem PySem.W PySem.Calls PyProof.Rows
set_option Elab.async false
set_option maxRecDepth 100000
set_option maxHeartbeats 8000000
set_option linter.unusedVariables false
namespace Mine
/-- four numbers told of two files -/
noncomputable def Row4 (x y : Th) (j : Nat) (v : Value) : Prop := ∃ t, v = .int (cmp4 x y j) t
noncomputable def rowSc (x : Str) : Scope := { kind := .function, names := [(Str.ofString ".0", .local), (Str.ofString "k", .local), (Str.ofString "three_way_cmp", .globalImplicit), (Str.ofString "one", .free), (Str.ofString "two", .free)], isGenerator := false, isCoroutine := false, more := [] }
section
variable {w : World} {loose : List Str} {mean : ExcName → Option Value} {mg mb : Str → Option Value} {A : Around} {E : Value → Shared → Prop} {s : Shared} {L : Addr} {q : LP}
theorem rowComp {a1 a2 ta1 ta2 : Addr} {fa1 fa2 : Value} {n1 n2 : Nat} {x y : Th} {Q : Value → Shared → Prop} {p0 p1 p2 p3 p4 p5 p6 p7 p8 p9 p10 p11 p12 p13 p14 p15 p16 : Pos}
    (S : LSt w loose mean mg mb L q s.heap) (r : Rm A 20) (hc1 : q.c1 = some (.ref a1)) (hc2 : q.c2 = some (.ref a2)) (e1 : s.heap.get? a1 = some (PySem.W.listOf #[.ref ta1, fa1] n1)) (e2 : s.heap.get? a2 = some (PySem.W.listOf #[.ref ta2, fa2] n2)) (th1 : ThAt s.heap ta1 x) (th2 : ThAt s.heap ta2 y)
    (hQ : ∀ D (ys : List Value) h' tk', s.heap.get? D = none → LSt w loose mean mg mb L q h' → Below (fx L s.heap) (fx L h') → (∃ c, (fx L h').get? D = some (PySem.W.listOf ys.toArray c)) → ys.length = 4 → (∀ j v, ys[j]? = some v → Row4 x y j v) → Q (.ref D) { s with heap := h', toks := tk' }) :
    wpAny (model PR w) A (eval (.ListComp (.Call (.Name (Str.ofString "three_way_cmp") p0) [.Subscript (.Subscript (.Name (Str.ofString "one") p1) (.Constant (.int 0) 0 p2) p3) (.Name (Str.ofString "k") p4) p5, .Subscript (.Subscript (.Name (Str.ofString "two") p6) (.Constant (.int 0) 0 p7) p8) (.Name (Str.ofString "k") p9) p10] [] p11)
      [⟨.Name (Str.ofString "k") p12, .Call (.Name (Str.ofString "range") p13) [.Constant (.int 4) 0 p14] [] p15, [], 0⟩] (rowSc "") p16) (lawE L)) Q E s := by
  have X := S.X
  have T := S.T
  obtain ⟨Ah, Ad, Af, Ag, Au⟩ := A
  obtain rfl : Ah = none := r.1
  refine compE (cl := [(Str.ofString "two", L + 1 + 1), (Str.ofString "one", L + 1)]) ?c1 rfl ?c3 ?c4 ?_
  case c1 => kernel_rfl!
  case c3 => decide
  case c4 => intro; rfl
  refine wpAny_Call_NameR (ldB X T (hide_below _ _) rfl rfl rfl rfl (v := .type "range") (by kernel_rfl!) (by kernel_rfl!) (by decide) rfl ?_)
  refine PyProof.Rows.callWith_type1 ?_
  refine spliced_cons (conI (p := p14) (k := 0) fun t0 tk0 => spliced_nil ?_)
  refine srcRange (s := { s with toks := tk0 }) (k := 0) rfl (fun i v h => Row4 x y i v) (fun i v h h' x _ => x) (fun _ => rfl) ?_ ?_
  rotate_left
  · refine finE (s := { s with toks := tk0 }) (R := fun i v h => Row4 x y i v) S (fun i v h h' x _ => x) fun D ys h' tk' D0 S' k' R' => ?_
    exact hQ D ys h' tk' D0 S' k' R'.1 R'.2.1 R'.2.2
  intro I D C i t h tk hi m kb nC hcs lv n0 hsC
  have C0 : s.heap.get? C = none := n0 C (by simp)
  refine wpAny_assign_Name (wpAny_storeName_local rfl nC fun h₂ n₂ s₂ => ?_)
  have k2 : ∀ b o, b ≠ C → h.get? b = some o → h₂.get? b = some o := fun b o hb e => (s₂.2 b hb).trans e
  have kb2 : Below s.heap h₂ := fun b o e => k2 b o (fun z => by rw [z, C0] at e; cases e) (kb b o e)
  have n₂' : h₂.Ns C fun z => if z = Str.ofString "k" then some (.int i t) else m z := n₂
  have S2 := S.grown kb2
  have hi4 : InR (i : Int) := ⟨by lia, by lia⟩
  have c1 : h₂.IsCell (L + 1) (some (.ref a1)) := hc1 ▸ S2.i1
  have c2 : h₂.IsCell (L + 1 + 1) (some (.ref a2)) := hc2 ▸ S2.i2
  have up : ∀ {ta x}, ThAt s.heap ta x → ThAt h₂ ta x := fun ⟨t0, t1, t2, t3, e⟩ => ⟨t0, t1, t2, t3, kb2 _ _ e⟩
  refine wpAny_Call_Name_kw (ldG X T ((hide_below _ _).trans kb2) rfl rfl rfl (v := .ref 21) (by kernel_rfl!) rfl ?_)
  obtain ⟨o3, fd3, e3, d3⟩ : FnAt 21 (fx L s.heap) := ⟨_, _, X 21 _ (by k_is), rfl⟩
  refine callWith_function_kw (o := o3) (fd := fd3) (Calls.evalArgs_plain (Calls.spliced_cons ?_))
  refine oneK (nmC rfl rfl rfl c1 rfl ⟨rfl, _, rfl⟩) (kb2 _ _ e1) (up th1) hi4 (fun tk' Q' h' => nmL rfl rfl n₂' rfl rfl (h' _)) fun v tk3 hv => ?_
  refine Calls.spliced_cons ?_
  refine oneK (s := { s with heap := h₂, toks := tk3 }) (nmC rfl rfl rfl c2 rfl ⟨rfl, _, rfl⟩) (kb2 _ _ e2) (up th2) hi4 (fun tk' Q' h' => nmL rfl rfl n₂' rfl rfl (h' _)) fun v' tk4 hv' => ?_
  refine Calls.spliced_nil ⟨⟨kb2 _ _ (of_hideAll _ e3), d3⟩, ?_⟩
  refine c_tw (S.wd.keeps kb2) (r.le (by decide)) hv hv' ?_
  rintro t s' ⟨h₃, tk₃, rfl, k₃⟩
  replace k₃ : Below h₂ h₃ := k₃
  exact ⟨_, _, _, rfl, fun b o hb e => k₃ _ _ (k2 b o (fun z => hb (z ▸ .head _)) e), n₂'.keeps k₃, fun a ha => by simp [cellsK] at ha, t, rfl⟩
end
end Mine
end
section
open PySem PySem.W PySem.Calls PyProof.Rows
set_option Elab.async false
set_option maxRecDepth 100000
set_option maxHeartbeats 8000000
set_option linter.unusedVariables false
namespace Mine
theorem pick1 (vs : List Value) : slicePick vs.toArray (some 1) none none = (vs.drop 1).toArray := by
  rw [kms_pick_eq]
  congr 1
  unfold kms_pick kms_lo kms_hi
  cases vs with
  | nil => rfl
  | cons a l =>
    simp
theorem pick2 (vs : List Value) : slicePick vs.toArray none (some 1) none = (vs.take 1).toArray := by
  rw [kms_pick_eq]
  congr 1
  unfold kms_pick kms_lo kms_hi
  cases vs with
  | nil => rfl
  | cons a l =>
    simp
theorem rot_get {vs : List Value} {i : Nat} {y : Value} (h : (vs.drop 1 ++ vs.take 1)[i]? = some y) (hi : i < vs.length) : vs[(i + 1) % vs.length]? = some y := by
  by_cases h1 : i + 1 < vs.length
  · rw [Nat.mod_eq_of_lt h1]
    rw [List.getElem?_append_left (by rw [List.length_drop]; exact fk2 1 1 1 (.a (.v 0) (.n 1)) (.v 1) (.a (.a (.v 0) (.n 1)) (.n 1)) (.v 2) (.v 2) (.a (.v 1) (.n 1)) rfl [_, _, _] h1 (sb2 _ _)), List.getElem?_drop] at h
    rw [Nat.add_comm]
    exact h
  · have e : i + 1 = vs.length := by exact Nat.le_antisymm (fk1 1 1 (.a (.v 0) (.n 1)) (.v 1) (.a (.v 0) (.n 1)) (.v 1) rfl [_, _] hi) (fk1 1 1 (.v 0) (.a (.v 1) (.n 1)) (.v 0) (.a (.v 1) (.n 1)) rfl [_, _] (Nat.le_of_not_lt h1))
    rw [e, Nat.mod_self]
    rw [List.getElem?_append_right (by rw [List.length_drop]; exact fk2 1 1 1 (.v 0) (.v 1) (.v 2) (.a (.v 1) (.n 1)) (.a (.v 0) (.n 1)) (.v 2) rfl [_, _, _] (Nat.le_of_not_lt h1) (sb3 (fk1 1 1 (.n 1) (.v 0) (.a (.v 1) (.n 1)) (.v 0) rfl [_, _] (Nat.le_of_eq e)))), List.length_drop, List.getElem?_take] at h
    rw [show i - (vs.length - 1) = 0 by lia] at h
    simpa using h
theorem rot_len (vs : List Value) : (vs.drop 1 ++ vs.take 1).length = vs.length := by
  rw [List.length_append, List.length_drop, List.length_take]; lia
section
variable {w : World} {A : Around} {E : Value → Shared → Prop} {s : Shared} {env : Env}
/-- x[1:] + x[:1] -/
theorem rotE {nm : Str} {a : Addr} {vs : List Value} {n k1 k2 : Nat} {p0 p1 p2 p3 p4 p5 p6 p7 p8 : Pos} {Q : Value → Shared → Prop}
    (hv : ∀ p h tk (Q' : Value → Shared → Prop), Below s.heap h → Q' (.ref a) { s with heap := h, toks := tk } → wpAny (model PR w) A (eval (.Name nm p) env) Q' E { s with heap := h, toks := tk })
    (hl : s.heap.get? a = some (PySem.W.listOf vs.toArray n)) (hsz : vs.length ≤ 60)
    (hQ : ∀ D h' tk', Below s.heap h' → s.heap.get? D = none → h'.get? D = some (PySem.W.listOf (vs.drop 1 ++ vs.take 1).toArray 0) → Q (.ref D) { s with heap := h', toks := tk' }) :
    wpAny (model PR w) A (eval (.BinOp (.Subscript (.Name nm p0) (.Slice (some (.Constant (.int 1) k1 p1)) none none p2) p3) .Add (.Subscript (.Name nm p4) (.Slice none (some (.Constant (.int 1) k2 p5)) none p6) p7) p8) env) Q E s := by
  refine wpAny_BinOp ?_
  refine sliE (fun Q' h => hv p0 s.heap s.toks Q' (Below.refl _) h) hl partI part0 part0 (by decide) (pick1 vs) (by exact fk1 1 1 (.v 0) (.n 64) (.v 0) (.n 60) rfl [_] hsz) rfl fun D1 h1 tk1 b1 n1 e1 => ?_
  refine sliE (s := { s with heap := h1, toks := tk1 }) (fun Q' h => hv p4 h1 tk1 Q' b1 h) (b1 _ _ hl) part0 partI part0 (by decide) (pick2 vs) (by exact fk1 1 1 (.v 0) (.n 64) (.v 0) (.n 60) rfl [_] hsz) rfl fun D2 h2 tk2 b2 n2 e2 => ?_
  replace b2 : Below h1 h2 := b2
  refine addLL (s := { s with heap := h2, toks := tk2 }) (b2 _ _ e1) e2 (by rw [List.length_drop, List.length_take]; lia) fun D3 h3 b3 n3 e3 => ?_
  replace b3 : Below h2 h3 := b3
  have n3' : h2.get? D3 = none := n3
  refine hQ D3 h3 tk2 ((b1.trans b2).trans b3) ?_ e3
  cases z : s.heap.get? D3 with
  | none => rfl
  | some o => rw [b2 _ _ (b1 _ _ z)] at n3'; cases n3'
end
noncomputable def thAt (xs : List Int) (i : Nat) : Th := thOf (xs.getD i 0)
inductive RowT (xs : List Int) (j : Nat) (v : Value) (h : Heap) : Prop
  | mk (a : Addr) (ys : List Value) (c : Nat) (e1 : v = .ref a) (e2 : h.get? a = some (PySem.W.listOf ys.toArray c)) (e3 : ys.length = 4) (e4 : ∀ k y, ys[k]? = some y → Row4 (thAt xs j) (thAt xs ((j + 1) % xs.length)) k y) : RowT xs j v h
theorem rowT_mono (xs : List Int) : ∀ i v h h', RowT xs i v h → Below h h' → RowT xs i v h' := by
  rintro i v h h' ⟨a, ys, c, e1, e2, e3, e4⟩ k
  exact ⟨a, ys, c, e1, k _ _ e2, e3, e4⟩
inductive TurnsG (q₀ : LP) (xs : List Int) (i : Nat) (q : LP) (h : Heap) : Prop
  | mk (tu : Addr) (vs : List Value) (c1 c2 : Option Value) (e1 : q = { q₀ with m := fun z => if z = Str.ofString "turns" then some (.ref tu) else q₀.m z, c1 := c1, c2 := c2 }) (e2 : RowsAt (RowT xs) i tu vs h) : TurnsG q₀ xs i q h
theorem thAt_of {xs : List Int} {i : Nat} {x : Int} (h : xs[i]? = some x) : thAt xs i = thOf x := by unfold thAt; rw [List.getD_eq_getElem?_getD, h]; rfl
theorem twice (f : Str → Option Value) (y : Str) (a b : Option Value) : (fun z => if z = y then a else (fun z => if z = y then b else f z) z) = fun z => if z = y then a else f z := by
  funext z
  by_cases h : z = y
  · simp [h]
  · simp [h]
theorem lp_twice (q : LP) (y : Str) (a b c1 c2 : Option Value) : ({ m := fun z => if z = y then a else (fun z => if z = y then b else q.m z) z, c1 := c1, c2 := c2, c3 := q.c3, c4 := q.c4, o23 := q.o23, p124 := q.p124 } : LP) = { q with m := fun z => if z = y then a else q.m z, c1 := c1, c2 := c2 } := by rw [twice]
section
variable {w : World} {loose : List Str} {mean : ExcName → Option Value} {mg mb : Str → Option Value} {A : Around} {E : Value → Shared → Prop} {s : Shared} {L : Addr} {q : LP}
theorem st4 {lt : Addr} {fs ts : List Value} {xs : List Int} {tu0 : Addr} {c0 : Nat} (S : LSt w loose mean mg mb L q s.heap) (r : Rm A 30) (hm : q.m (Str.ofString "told") = some (.ref lt)) (hu : q.m (Str.ofString "turns") = some (.ref tu0)) (hu0 : (fx L s.heap).get? tu0 = some (PySem.W.listOf ([] : List Value).toArray c0)) (hF : RowsAt (RowR xs fs) xs.length lt ts (fx L s.heap)) (hsz : xs.length ≤ 60) :
    wpAny (model PR w) A (exec (lawS 4) (lawE L)) (Nx s fun h' => ∃ q', LSt w loose mean mg mb L q' h' ∧ Below (fx L s.heap) (fx L h') ∧ TurnsG q xs xs.length q' (fx L h')) E s := by
  have X := S.X
  have T := S.T
  obtain ⟨Ah, Ad, Af, Ag, Au⟩ := A
  obtain rfl : Ah = none := r.1
  obtain ⟨⟨c, hlt⟩, hlen, hrow⟩ := hF
  refine wpAny_For ?_
  refine wpAny_Call_NameR (ldB X T (hide_below _ _) rfl rfl rfl rfl (v := .type "zip") (by kernel_rfl!) (by kernel_rfl!) (by decide) rfl ?_)
  refine PyProof.Rows.callWith_type1 ?_
  refine spliced_cons (nmL rfl rfl S.ns hm rfl ?_)
  refine spliced_cons ?_
  refine rotE (fun p h tk Q' kb hq => nmL rfl rfl (S.ns.keeps kb) hm rfl hq) (of_hideAll _ hlt) (by exact fk2 1 1 1 (.v 0) (.n 60) (.v 1) (.n 60) (.v 0) (.v 1) rfl [_, _] hsz (Nat.le_of_eq hlen)) fun D1 h1 tk1 kb1 n1 e1 => ?_
  refine spliced_nil ?_
  have S1 := S.grown kb1
  have D1v : D1 ∉ vol L := fun z => by obtain ⟨o, e⟩ := S.live D1 z; rw [n1] at e; cases e
  have hl1 : (fx L h1).IsList lt ts.toArray := ⟨_, fx_below kb1 _ _ hlt, rfl, _, rfl⟩
  have hl2 : (fx L h1).IsList D1 (ts.drop 1 ++ ts.take 1).toArray := ⟨_, hide_get.mpr ⟨e1, D1v⟩, rfl, _, rfl⟩
  refine forZip (s := { s with heap := h1, toks := tk1 }) rfl S1 hl1 hl2 (TurnsG q xs) ?mono ?h0 ?step ?done
  case mono =>
    rintro i q' h h' ⟨tu, vs, c1, c2, e, rr⟩ k
    exact ⟨tu, vs, c1, c2, e, rr.mono (rowT_mono xs) k⟩
  case h0 =>
    refine ⟨tu0, [], q.c1, q.c2, ?_, ⟨c0, fx_below kb1 _ _ hu0⟩, rfl, fun j v e => by simp at e⟩
    have : (fun z => if z = Str.ofString "turns" then some (.ref tu0) else q.m z) = q.m := by
      funext z
      by_cases hz : z = Str.ofString "turns"
      · rw [if_pos hz, hz, hu]
      · rw [if_neg hz]
    rw [this]
  case done =>
    intro q' h tk S' kb G
    have e : min ts.toArray.size (ts.drop 1 ++ ts.take 1).toArray.size = xs.length := by
      rw [List.size_toArray, List.size_toArray, rot_len, hlen]; lia
    rw [e] at G
    exact ⟨rfl, h, tk, rfl, q', S', (fx_below kb1).trans kb, G⟩
  intro wr i T0 v1 v2 q' h tk hx hy hT S' kb' ⟨tu, vs, c1', c2', eq, ⟨cu, htu⟩, hvl, hvs⟩ lv
  replace kb' : Below (fx L h1) (fx L h) := kb'
  have hx' : ts[i]? = some v1 := by simpa using hx
  have hi : i < ts.length := (List.getElem?_eq_some_iff.mp hx').1
  have hy' := rot_get (by simpa using hy) hi
  obtain ⟨a1, ta1, fa1, na1, x1, rfl, ea1, _, ex1, th1⟩ := hrow _ _ hx'
  obtain ⟨a2, ta2, fa2, na2, x2, rfl, ea2, _, ex2, th2⟩ := hrow _ _ hy'
  rw [hlen] at ex2
  have kbase : Below (fx L s.heap) (fx L h) := (fx_below kb1).trans kb'
  refine asgT2 rfl hT fun h₂ kb₂ => ?_
  have S2 := S'.grown kb₂
  refine wpAny_storeName_cell (c := L + 1) rfl rfl rfl S2.i1 fun h₃ n₃ s₃ => ?_
  obtain ⟨S3, k3⟩ := S2.set1 n₃ s₃
  refine wpAny_storeName_cell (c := L + 1 + 1) rfl rfl rfl S3.i2 fun h₄ n₄ s₄ => ?_
  obtain ⟨S4, k4⟩ := S3.set2 n₄ s₄
  have kf : Below (fx L h) (fx L h₄) := ((fx_below kb₂).trans k3).trans k4
  have ku : ∀ {ta x}, ThAt (fx L s.heap) ta x → ThAt h₄ ta x := fun ⟨t0, t1, t2, t3, e⟩ => ⟨t0, t1, t2, t3, of_hideAll _ (kf _ _ (kbase _ _ e))⟩
  have lv4 : ∀ b ∈ wr, ∃ o, h₄.get? b = some o := fun b hb => by
    obtain ⟨o, e⟩ := lv b hb
    by_cases hv : b ∈ vol L
    · exact S4.live b hv
    · exact ⟨o, of_hideAll _ (kf _ _ (hide_get.mpr ⟨e, hv⟩))⟩
  have m4 : q'.m (Str.ofString "turns") = some (.ref tu) := by rw [eq]; rfl
  have htu0 := hide_get.mp htu
  have htu1 := hide_get.mp htu0.1
  have htu4 : h₄.get? tu = some (PySem.W.listOf vs.toArray cu) := of_hideAll _ (kf _ _ (hide_get.mpr ⟨htu1.1, htu0.2⟩))
  refine wpAny_execs_cons ?_
  refine wpAny_Assign_Name ?_ (by kernel_rfl!)
  refine wpAny_BinOp (nmL rfl rfl S4.ns m4 rfl ?_)
  refine wpAny_List (spliced_cons ?_)
  refine rowComp (s := { s with heap := h₄, toks := tk }) S4 (r.le (by decide)) rfl rfl (of_hideAll _ (kf _ _ (kbase _ _ ea1))) (of_hideAll _ (kf _ _ (kbase _ _ ea2))) (ku th1) (ku th2) fun D ys h₅ tk₅ D0 S5 k5 eD ly hys => ?_
  refine spliced_nil ⟨sz_small (by simp), ?_⟩
  obtain ⟨cD, eD⟩ := eD
  replace k5 : Below (fx L h₄) (fx L h₅) := k5
  have D0' : h₄.get? D = none := D0
  have lv5 : ∀ b ∈ wr, ∃ o, h₅.get? b = some o := fun b hb => by
    obtain ⟨o, e⟩ := lv4 b hb
    by_cases hv : b ∈ vol L
    · exact S5.live b hv
    · exact ⟨o, of_hideAll _ (k5 _ _ (hide_get.mpr ⟨e, hv⟩))⟩
  have tuv : tu ∉ vol L := htu0.2
  have htu5 : h₅.get? tu = some (PySem.W.listOf vs.toArray cu) := of_hideAll _ (k5 _ _ (hide_get.mpr ⟨htu4, tuv⟩))
  have hn : (h₅.push { cls := .type "list", data := .seq [Value.ref D].toArray }).get? h₅.objs.size = some (PySem.W.listOf [Value.ref D].toArray 0) := Heap.get?_push_size _ rfl
  have hts : ts.length ≤ 60 := by exact fk2 1 1 1 (.v 0) (.n 60) (.v 1) (.n 60) (.v 0) (.v 1) rfl [_, _] hsz (Nat.le_of_eq hlen)
  have up : Below h₅ (h₅.push { cls := .type "list", data := .seq [Value.ref D].toArray }) := fun b o e => Heap.get?_push_of_some _ e
  refine addLL (up _ _ htu5) hn (by rw [hvl]; simp; exact fk2 1 1 1 (.v 0) (.n 63) (.a (.v 0) (.n 1)) (.v 1) (.v 1) (.n 60) rfl [_, _] hi hts) fun D6 h₆ k6 n6 e6 => ?_
  replace k6 : Below (h₅.push { cls := .type "list", data := .seq [Value.ref D].toArray }) h₆ := k6
  have n6' : h₅.get? D6 = none := by
    cases z : h₅.get? D6 with
    | none => rfl
    | some o => have n6'' : (h₅.push { cls := .type "list", data := .seq [Value.ref D].toArray }).get? D6 = none := n6; rw [up _ _ z] at n6''; cases n6''
  have S6 := S5.grown (up.trans k6)
  refine wpAny_storeName_local rfl S6.ns fun h₇ n₇ s₇ => ?_
  obtain ⟨S7, k7⟩ := S6.setL n₇ s₇
  refine wpAny_execs_nil ⟨rfl, h₇, _, _, rfl, S7, ((kf.trans k5).trans (fx_below (up.trans k6))).trans k7, ?_⟩
  have kz : Below (fx L (hideAll h wr)) (fx L (hideAll h₇ wr)) := fx_hide (((kf.trans k5).trans (fx_below (up.trans k6))).trans k7)
  have D6v : D6 ∉ vol L := fun z => by obtain ⟨o, e⟩ := S5.live D6 z; rw [n6'] at e; cases e
  have D6w : D6 ∉ wr := fun z => by obtain ⟨o, e⟩ := lv5 D6 z; rw [n6'] at e; cases e
  have Dv := (hide_get.mp eD).2
  have Dw : D ∉ wr := fun z => by obtain ⟨o, e⟩ := lv4 D z; rw [D0'] at e; cases e
  have inZ : ∀ b o, (fx L h₆).get? b = some o → b ∉ wr → (fx L (hideAll h₇ wr)).get? b = some o := fun b o e hb => by
    have e' := hide_get.mp (k7 b o e)
    exact hide_get.mpr ⟨hide_get.mpr ⟨e'.1, hb⟩, e'.2⟩
  refine ⟨D6, vs ++ [.ref D], some (.ref a1), some (.ref a2), ?_, ⟨0, inZ _ _ (hide_get.mpr ⟨e6, D6v⟩) D6w⟩, by rw [List.length_append, hvl]; rfl, fun j v ej => ?_⟩
  · rw [eq]
    exact lp_twice _ _ _ _ _ _
  · by_cases hj : j < vs.length
    · rw [List.getElem?_append_left hj] at ej
      exact rowT_mono xs _ _ _ _ (hvs j v ej) kz
    · rw [List.getElem?_append_right (by exact fk1 1 1 (.v 0) (.v 1) (.v 0) (.v 1) rfl [_, _] (Nat.le_of_not_lt hj))] at ej
      have hj0 : j = i := by
        cases hd : j - vs.length with
        | zero => exact Nat.le_antisymm (fk3 1 1 1 1 (.v 0) (.v 1) (.v 2) (.v 1) (.v 3) (.n 0) (.v 0) (.a (.v 3) (.v 2)) rfl [_, _, _, _] (Nat.le_of_eq hvl) (Nat.le_of_eq hd) (sb2 _ _)) (fk2 1 1 1 (.v 0) (.v 1) (.v 0) (.v 2) (.v 2) (.v 1) rfl [_, _, _] (Nat.le_of_eq hvl.symm) (Nat.le_of_not_lt hj))
        | succ z => rw [hd] at ej; simp at ej
      subst hj0
      rw [hvl] at ej
      simp at ej
      subst ej
      refine ⟨D, ys, cD, rfl, inZ _ _ (fx_below (up.trans k6) _ _ eD) Dw, ly, fun k y ek => ?_⟩
      rw [thAt_of ex1, thAt_of ex2]
      exact hys k y ek
end
end Mine
end
section
open PySem PySem.W PySem.Calls PyProof.Rows
set_option Elab.async false
set_option maxRecDepth 100000
set_option maxHeartbeats 8000000
set_option linter.unusedVariables false
namespace Mine
section
variable {w : World} {loose : List Str} {mean : ExcName → Option Value} {mg mb : Str → Option Value} {A : Around} {E : Value → Shared → Prop} {s : Shared} {L : Addr} {q : LP} {h h' : Heap}
theorem LSt.vne (S : LSt w loose mean mg mb L q h) {c : Addr} (hc : c ∈ ([23, 100, 124] : List Addr)) : L ≠ c ∧ L + 1 ≠ c ∧ L + 1 + 1 ≠ c ∧ L + 1 + 1 + 1 ≠ c ∧ L + 1 + 1 + 1 + 1 ≠ c := by
  have lt : (124 : Nat) < L := S.lt
  have hc' : (c : Nat) ≤ 124 := by
    simp only [List.mem_cons, List.not_mem_nil, or_false] at hc
    rcases hc with rfl | rfl | rfl <;> decide
  have f : ∀ i : Nat, (L + i : Nat) ≠ c := fun i => Nat.ne_of_gt (Nat.lt_of_le_of_lt hc' (Nat.lt_of_lt_of_le lt (Nat.le_add_right _ _)))
  exact ⟨f 0, f 1, f 2, f 3, f 4⟩
theorem LSt.set124 {p' : Array Value} (S : LSt w loose mean mg mb L q h) (e : h'.get? 124 = some (tabObj p')) (k : ∀ b o, b ≠ 124 → h.get? b = some o → h'.get? b = some o) : LSt w loose mean mg mb L { q with p124 := p' } h' ∧ Below (fx L h) (fx L h') := by
  have kp : Below (fx L h) (fx L h') := Kp.hide fun b o n e => k b o (fun z => n (by simp [z])) e
  obtain ⟨n0, n1, n2, n3, n4⟩ := S.vne (c := 124) (by simp)
  exact ⟨⟨S.X.keeps kp, S.T.keeps kp, k _ _ (by decide) S.t100, S.lt, S.ns.at' fun o e => k _ _ n0 e, cell_at S.i1 fun o e => k _ _ n1 e, cell_at S.i2 fun o e => k _ _ n2 e, cell_at S.i3 fun o e => k _ _ n3 e, cell_at S.i4 fun o e => k _ _ n4 e, k _ _ (by decide) S.t23, e⟩, kp⟩
theorem LSt.set23 {o' : Obj} (S : LSt w loose mean mg mb L q h) (e : h'.get? 23 = some o') (k : ∀ b o, b ≠ 23 → h.get? b = some o → h'.get? b = some o) : LSt w loose mean mg mb L { q with o23 := o' } h' ∧ Below (fx L h) (fx L h') := by
  have kp : Below (fx L h) (fx L h') := Kp.hide fun b o n e => k b o (fun z => n (by simp [z])) e
  obtain ⟨n0, n1, n2, n3, n4⟩ := S.vne (c := 23) (by simp)
  exact ⟨⟨S.X.keeps kp, S.T.keeps kp, k _ _ (by decide) S.t100, S.lt, S.ns.at' fun o e => k _ _ n0 e, cell_at S.i1 fun o e => k _ _ n1 e, cell_at S.i2 fun o e => k _ _ n2 e, cell_at S.i3 fun o e => k _ _ n3 e, cell_at S.i4 fun o e => k _ _ n4 e, e, k _ _ (by decide) S.t124⟩, kp⟩
/-- what is found in the law's own code table for a place -/
noncomputable def LamT (L : Addr) (pos : Pos) (p : Array Value) (h : Heap) : Prop := codeAmong pos p.toList = none ∨ ∃ c', codeAmong pos p.toList = some (.ref c') ∧ (fx L h).CodeRec (.ref c') (Str.ofString "law.<locals>.<lambda>")
theorem lamL {params : Arguments} {body : Expr} {scope : Scope} {pos : Pos} {clos : List (Str × Addr)} {Q : Value → Shared → Prop} (S : LSt w loose mean mg mb L q s.heap) (hdef : defaultsOf params (lawE L) = ([], [])) (hcl : closureFor scope (lawE L) = pure clos)
    (V : LamT L pos q.p124 s.heap) (ht : TriplesOk q.p124.toList)
    (hQ : ∀ fa c' ct pm p' h' tk', LSt w loose mean mg mb L { q with p124 := p' } h' → Below (fx L s.heap) (fx L h') → s.heap.get? fa = none → (fx L h').get? fa = some (kla_obj (Str.ofString "<lambda>") (Str.ofString "law.<locals>.<lambda>") params body scope clos pm c' ct) → (fx L h').CodeRec (.ref c') (Str.ofString "law.<locals>.<lambda>") →
      codeAmong pos p'.toList = some (.ref c') → (p' = q.p124 ∨ codeAmong pos q.p124.toList = none ∧ s.heap.get? c' = none ∧ p' = q.p124 ++ #[rawInt pos.line, rawInt pos.col, .ref c']) → Q (.ref fa) { s with heap := h', toks := tk' }) :
    wpAny (model PR w) A (eval (.Lambda params body scope pos) (lawE L)) Q E s := by
  have X := S.X
  have T := S.T
  have kb := hide_below s.heap (vol L)
  have lv := S.live
  have hG : s.heap.Ns mainGlobals mg := T.g.keeps kb
  have hBA : s.heap.BuiltinsAt mg 124 := by
    obtain ⟨bm, ob, hbm, hbn, hbo, hbc, hbd, hbt⟩ := T.bmain
    refine ⟨bm, ob, hbm, hbn, fun q => ?_, fun z => (hide_get.mp hbo).2 (by simp [z]), kb _ _ hbo, hbc, hbd, hbt⟩
    obtain ⟨o, es', ep', e1, e2, _⟩ := T.g
    rw [q, e1] at hbo
    cases hbo
    rw [e2] at hbt
    cases hbt
  have C126 : CodeHd s.heap 126 124 := ⟨_, _, _, _, _, _, _, _, _, kb _ _ (X 126 _ (by k_is)), rfl, rfl, rfl, rfl, rfl, rfl, rfl, rfl, by decide⟩
  have hP := S.t124
  have nv : ∀ c : Addr, s.heap.get? c = none → c ∉ vol L := fun c e hm => by obtain ⟨o, e'⟩ := lv c hm; rw [e] at e'; cases e'
  refine kla_eval hdef ?_
  have hq : (lawE L).qual ++ Str.ofString "<lambda>" = Str.ofString "law.<locals>.<lambda>" := by kernel_rfl!
  show wpAny (model PR w) A (makeFunction (Str.ofString "<lambda>") ((lawE L).qual ++ Str.ofString "<lambda>") params (.expr body) scope (lawE L) [] [] [] pos pos.line) Q E s
  rw [hq]
  rcases V with V | ⟨c', V, hc'⟩
  · refine kla_makeFunction hcl rfl hG rfl C126 hP ht V (by decide) hBA fun c' ct h₁ tk hx hge hlt hrec hP' => ?_
    have k1 : ∀ b o, b ≠ 124 → s.heap.get? b = some o → h₁.get? b = some o := fun b o hb e => hx b o hb e
    have c0 : s.heap.get? c' = none := Heap.get?_none_of_le hge
    have f0 : s.heap.get? h₁.objs.size = none := Heap.get?_none_of_le (Nat.le_of_lt (Nat.lt_of_le_of_lt hge hlt))
    obtain ⟨S1, kk⟩ := S.set124 hP' k1
    have up : Below h₁ (h₁.push (kla_obj (Str.ofString "<lambda>") (Str.ofString "law.<locals>.<lambda>") params body scope clos ((mg "__name__").getD .none) c' ct)) := fun b o e => Heap.get?_push_of_some _ e
    obtain ⟨c2, oc, vs, t, ec, e1, e2, e3⟩ := hrec
    cases ec
    refine hQ _ c' ct _ _ _ _ (S1.grown up) (kk.trans (fx_below up)) f0 (hide_get.mpr ⟨Heap.get?_push_size _ rfl, nv _ f0⟩) ⟨c', oc, vs, t, rfl, hide_get.mpr ⟨up _ _ e1, nv _ c0⟩, e2, e3⟩ ?_ (.inr ⟨V, c0, rfl⟩)
    rw [Array.toList_append]
    exact codeAmong_snoc _ ht V
  · refine kla_makeFunctionHit hcl rfl hG rfl C126 hP ht V hBA fun ct h₁ tk k sz => ?_
    have f0 : s.heap.get? h₁.objs.size = none := Heap.get?_none_of_le sz
    have up : Below h₁ (h₁.push (kla_obj (Str.ofString "<lambda>") (Str.ofString "law.<locals>.<lambda>") params body scope clos ((mg "__name__").getD .none) c' ct)) := fun b o e => Heap.get?_push_of_some _ e
    have kk : Below s.heap (h₁.push (kla_obj (Str.ofString "<lambda>") (Str.ofString "law.<locals>.<lambda>") params body scope clos ((mg "__name__").getD .none) c' ct)) := fun b o e => up _ _ (k b o e)
    exact hQ _ c' ct _ q.p124 _ _ (S.grown kk) (fx_below kk) f0 (hide_get.mpr ⟨Heap.get?_push_size _ rfl, nv _ f0⟩) (hc'.keeps (fx_below kk)) V (.inl rfl)
end
end Mine
end
section
open PySem PySem.W PySem.Calls PyProof.Rows
set_option Elab.async false
set_option maxRecDepth 100000
set_option maxHeartbeats 8000000
set_option linter.unusedVariables false
namespace Mine
inductive KeyN (L mf : Addr) (h : Heap) : Prop
  | mk (q0 q1 p0 p1 p2 p3 p4 p5 p6 p7 p8 : Pos) (pm : Value) (c' : Addr) (ct : Value) (e1 : h.get? mf = some (kla_obj (Str.ofString "<lambda>") (Str.ofString "law.<locals>.<lambda>") (lamP q0 q1) (lamB p0 p1 p2 p3 p4 p5 p6 p7 p8) lamS [(Str.ofString "wishes", L + 1 + 1 + 1 + 1 + 1)] pm c' ct)) (e2 : h.CodeRec (.ref c') (Str.ofString "law.<locals>.<lambda>")) (e3 : (c' : Nat) ≠ 100) : KeyN L mf h
/-- the key class and the lambda behind it -/
structure KeyB (L C mf : Addr) (h : Heap) : Prop where
  k : KeyK C mf h
  l : KeyN L mf h
  h2 : h.get? cStatics = some ⟨.none, none, .dict #[] 0, #[]⟩
theorem KeyB.mono {L C mf : Addr} {h h' : Heap} (K : KeyB L C mf h) (x : Below h h') : KeyB L C mf h' := by
  refine ⟨?_, ?_, x _ _ K.h2⟩
  · obtain ⟨c, bt, tn, N, md, cl, K1, m1, m2, m3, o, c1, c3⟩ := K.k
    refine ⟨c, bt, tn, N, md, cl, ⟨x _ _ K1.hC, ?_, ?_⟩, m1.keeps x, m2.keeps x, m3.keeps x, o, x _ _ c1, c3⟩
    · obtain ⟨a, b, f, g, q⟩ := K1.hN
      exact ⟨a, b, f, g, x _ _ q⟩
    · obtain ⟨a, q⟩ := K1.hm
      exact ⟨a, x _ _ q⟩
  · obtain ⟨q0, q1, p0, p1, p2, p3, p4, p5, p6, p7, p8, pm, c', ct, e1, e2, e3⟩ := K.l
    exact ⟨q0, q1, p0, p1, p2, p3, p4, p5, p6, p7, p8, pm, c', ct, x _ _ e1, e2.keeps x, e3⟩
section
variable {w : World} {loose : List Str} {mean : ExcName → Option Value} {mg mb : Str → Option Value} {A : Around} {E : Value → Shared → Prop} {s : Shared} {L : Addr} {q : LP}
/-- what is no table, no name space and no cell is none of the volatile places -/
theorem LSt.nvol {h : Heap} (S : LSt w loose mean mg mb L q h) (h23 : q.o23.cls = .none) {a : Addr} {o : Obj} (e : h.get? a = some o) (h1 : o.cls ≠ .none) (h2 : ∀ es ep, o.data ≠ .dict es ep) (h3 : ∀ v, o.data ≠ .cell v) : a ∉ vol L := fun hm => by
  simp only [vol, List.mem_cons, List.not_mem_nil, or_false] at hm
  rcases hm with rfl | rfl | rfl | rfl | rfl | rfl | rfl | rfl
  · rw [S.t23] at e; cases e; exact h1 h23
  · rw [S.t100] at e; cases e; exact h1 rfl
  · rw [S.t124] at e; cases e; exact h1 rfl
  · obtain ⟨o', es, ep, e1, e2, _⟩ := S.ns; rw [e1] at e; cases e; exact h2 _ _ e2
  · obtain ⟨o', e1, e2⟩ := S.i1; rw [e1] at e; cases e; exact h3 _ e2
  · obtain ⟨o', e1, e2⟩ := S.i2; rw [e1] at e; cases e; exact h3 _ e2
  · obtain ⟨o', e1, e2⟩ := S.i3; rw [e1] at e; cases e; exact h3 _ e2
  · obtain ⟨o', e1, e2⟩ := S.i4; rw [e1] at e; cases e; exact h3 _ e2
theorem mth_fx {h : Heap} {n q' : String} {cl : List (Str × Addr)} {f : Addr} (S : LSt w loose mean mg mb L q h) (h23 : q.o23.cls = .none) (m : MthAt n q' cl f h) : MthAt n q' cl f (fx L h) := by
  obtain ⟨c, ct, pm, e1, ⟨c2, oc, vs, t, ec, g2, d1, d2⟩, o, e2, e3⟩ := m
  cases ec
  rw [g2] at e2
  cases e2
  have n1 := S.nvol h23 e1 (by intro z; cases z) (by intro _ _ z; cases z) (by intro _ z; cases z)
  have n2 := S.nvol h23 g2 (by rw [e3]; intro z; cases z) (by intro _ _ z; rw [d1] at z; cases z) (by intro _ z; rw [d1] at z; cases z)
  exact ⟨c, ct, pm, hide_get.mpr ⟨e1, n1⟩, ⟨c, oc, vs, t, rfl, hide_get.mpr ⟨g2, n2⟩, d1, d2⟩, oc, hide_get.mpr ⟨g2, n2⟩, e3⟩
theorem st3 (S : LSt w loose mean mg mb L q s.heap) (r : Rm A 30) (h23 : q.o23 = tabObj #[]) (h124 : q.p124 = #[]) (h1 : ∃ o, (fx L s.heap).get? sysModules = some o) (h2 : (fx L s.heap).get? cStatics = some ⟨.none, none, .dict #[] 0, #[]⟩) :
    wpAny (model PR w) A (exec (lawS 3) (lawE L)) (Nx s fun h' => ∃ C mf tu p23 c', LSt w loose mean mg mb L { q with m := fun z => if z = Str.ofString "row" then some (.ref C) else if z = Str.ofString "turns" then some (.ref tu) else q.m z, o23 := tabObj p23, p124 := #[rawInt 112, rawInt 29, .ref c'] } h' ∧ Below (fx L s.heap) (fx L h') ∧ KeyB L C mf (fx L h') ∧ (fx L h').get? tu = some (PySem.W.listOf ([] : List Value).toArray 0)) E s := by
  have X := S.X
  have T := S.T
  obtain ⟨Ah, Ad, Af, Ag, Au⟩ := A
  obtain rfl : Ah = none := r.1
  refine Assign_Tuple_swapped (names := [Str.ofString "row", Str.ofString "turns"]) ?_ rfl (by kernel_rfl!)
  refine wpAny_Tuple (spliced_cons ?_)
  refine wpAny_Call_Name_kw (ldG X T (hide_below _ _) rfl rfl rfl (v := .ref 28) (by kernel_rfl!) rfl ?_)
  obtain ⟨o3, fd3, e3, d3⟩ : FnAt 28 (fx L s.heap) := ⟨_, _, X 28 _ (by k_is), rfl⟩
  refine callWith_function_kw (o := o3) (fd := fd3) (Calls.evalArgs_plain (Calls.spliced_cons ?_))
  rw [if_neg Bool.false_ne_true]
  refine lamL (clos := [(Str.ofString "wishes", L + 1 + 1 + 1 + 1 + 1)]) S ?hd1 ?hc1 (.inl ?hv1) ?ht1 fun mf c' ct pm p' hA tkA SA kA mf0 eM rM hca hp' => ?_
  case hd1 => rfl
  case hc1 => kernel_rfl!
  case hv1 => rw [h124]; rfl
  case ht1 => rw [h124]; trivial
  replace kA : Below (fx L s.heap) (fx L hA) := kA
  refine Calls.spliced_nil ⟨⟨of_hideAll _ (kA _ _ e3), d3⟩, ?_⟩
  obtain ⟨o1, e1⟩ := h1
  refine c_ctk (s := { s with heap := hA, toks := tkA }) SA.wd (r.le (by decide)) (by rw [← h23]; exact SA.t23) (of_hideAll _ (kA _ _ e1)) (of_hideAll _ (kA _ _ h2)) ?_
  intro C N md bt tn c cl hB tkB kB K m1 m2 m3 hcl C0 N0 md0 cl0 ⟨p23, e23⟩
  replace kB : ∀ b o, b ≠ 23 → hA.get? b = some o → hB.get? b = some o := kB
  obtain ⟨SB, kB'⟩ := SA.set23 e23 kB
  have o'c : (tabObj p23).cls = .none := rfl
  have nv : ∀ c : Addr, hA.get? c = none → c ∉ vol L := fun c e hm => by obtain ⟨o, e'⟩ := SA.live c hm; rw [e] at e'; cases e'
  have KB : KeyB L C mf (fx L hB) := by
    refine ⟨⟨c, bt, tn, N, md, cl, ⟨hide_get.mpr ⟨K.hC, nv _ C0⟩, ?_, ?_⟩, mth_fx SB o'c m1, mth_fx SB o'c m2, mth_fx SB o'c m3, ?_⟩, ?_, kB' _ _ (kA _ _ h2)⟩
    · obtain ⟨a, b, f, g, q⟩ := K.hN
      exact ⟨a, b, f, g, hide_get.mpr ⟨q, nv _ N0⟩⟩
    · obtain ⟨a, q⟩ := K.hm
      exact ⟨a, hide_get.mpr ⟨q, nv _ md0⟩⟩
    · obtain ⟨o, e, q⟩ := hcl
      exact ⟨o, hide_get.mpr ⟨e, nv _ cl0⟩, q⟩
    · refine ⟨_, _, _, _, _, _, _, _, _, _, _, pm, c', ct, kB' _ _ eM, rM.keeps kB', fun z => ?_⟩
      obtain ⟨c2, oc, vs, t, ec, g2, d1, d2⟩ := rM
      cases ec
      exact (hide_get.mp g2).2 (by simp [z])
  refine spliced_cons (wpAny_List (spliced_nil ⟨sz_small (by simp), ?_⟩))
  refine spliced_nil ⟨sz_small (by simp), ?_⟩
  dsimp only
  generalize hHC : hB.push { cls := .type "list", data := .seq ([] : List Value).toArray } = hC
  have upC : Below hB hC := by rw [← hHC]; exact fun b o e => Heap.get?_push_of_some _ e
  have eC : hC.get? hB.objs.size = some (PySem.W.listOf ([] : List Value).toArray 0) := by rw [← hHC]; exact Heap.get?_push_size _ rfl
  have tuv : hB.objs.size ∉ vol L := fun hm => by obtain ⟨o, e⟩ := SB.live _ hm; exact absurd (Heap.lt_size e) (Nat.lt_irrefl _)
  generalize htu : hB.objs.size = tu at *
  generalize hHD : hC.push { cls := .type "tuple", data := .seq [Value.ref C, Value.ref tu].toArray } = hD
  have upD : Below hC hD := by rw [← hHD]; exact fun b o e => Heap.get?_push_of_some _ e
  have eD : hD.IsTuple hC.objs.size #[.ref C, .ref tu] := by rw [← hHD]; exact ⟨_, Heap.get?_push_size _ rfl, rfl, _, rfl⟩
  refine unpackItems_tuple (items := #[.ref C, .ref tu]) rfl eD fun h₁ e₁ => ?_
  have k₁ : Below hD h₁ := fun b o e => e₁ b o (Nat.ne_of_lt (Heap.lt_size e)) e
  refine wpAny_assignInOrder_more (bindName_ ?_)
  have S1 := SB.grown ((upC.trans upD).trans k₁)
  refine wpAny_storeName_local rfl S1.ns fun h₂ n₂ s₂ => ?_
  obtain ⟨S2, k2⟩ := S1.setL n₂ s₂
  refine wpAny_assignInOrder_more (bindName_ ?_)
  refine wpAny_storeName_local rfl S2.ns fun h₃ n₃ s₃ => wpAny_assignInOrder_none ?_
  obtain ⟨S3, k3⟩ := S2.setL n₃ s₃
  have kk : Below (fx L hB) (fx L h₃) := ((fx_below ((upC.trans upD).trans k₁)).trans k2).trans k3
  refine ⟨rfl, h₃, _, rfl, C, mf, tu, p23, c', ?_, (kA.trans kB').trans kk, KB.mono kk, k3 _ _ (k2 _ _ (fx_below (upD.trans k₁) _ _ (hide_get.mpr ⟨eC, tuv⟩)))⟩
  have hpe : p' = #[rawInt 112, rawInt 29, .ref c'] := by
    rcases hp' with hp' | ⟨_, _, hp'⟩
    · rw [hp', h124] at hca
      cases hca
    · rw [hp', h124]; rfl
  subst hpe
  exact S3
end
end Mine
end
section
open PySem PySem.W PySem.Calls PyProof.Rows
set_option Elab.async false
set_option maxRecDepth 100000
set_option maxHeartbeats 8000000
set_option linter.unusedVariables false
namespace Mine
theorem cmp4_pos (x y : Th) (k : Int) : cmp4 x y k = if 0 < cmp4 x y k then 1 else if cmp4 x y k < 0 then -1 else 0 := by
  have hb : ∀ b : Bool, b2i b = 0 ∨ b2i b = 1 := fun b => by cases b <;> simp [b2i_cases]
  have h : cmp4 x y k = -1 ∨ cmp4 x y k = 0 ∨ cmp4 x y k = 1 := by
    have g : ∀ b c : Bool, b2i b - b2i c = -1 ∨ b2i b - b2i c = 0 ∨ b2i b - b2i c = 1 := fun b c => by
      rcases hb b with h1 | h1 <;> rcases hb c with h2 | h2 <;> lia
    unfold cmp4
    by_cases h0 : k = 0
    · simp only [h0, if_true]; exact g _ _
    · simp only [h0, if_false]
      by_cases h1 : k = 1
      · simp only [h1, if_true]; exact g _ _
      · simp only [h1, if_false]
        by_cases h2 : k = 2
        · simp only [h2, if_true]; exact g _ _
        · simp only [h2, if_false]; exact g _ _
  rcases h with h | h | h <;> rw [h] <;> rfl
theorem cmpI_gt (x y : Int) : decide (y < x) = decide (0 < cmpI x y) := by
  rw [cmpI_sign]; apply decide_eq_decide.mpr; split
  · simp; lia
  · split
    · simp; lia
    · simp; lia
theorem cmpI_lt (x y : Int) : decide (x < y) = decide (cmpI x y < 0) := by
  rw [cmpI_sign]; apply decide_eq_decide.mpr; split
  · simp; lia
  · split
    · simp; lia
    · simp; lia
theorem cmpI_ne (x y : Int) : (x != y) = decide (cmpI x y ≠ 0) := by
  by_cases h : x = y
  · have h' := (cmpI_eq x y).mpr h; rw [h']; simp [h]
  · have : cmpI x y ≠ 0 := fun e => h ((cmpI_eq x y).mp e); simp [h, this]
theorem cmpS_gt (x y : Str) : decide (y.cps.toList < x.cps.toList) = decide (0 < cmpS x y) := by
  rw [cmpS_sign]; apply decide_eq_decide.mpr
  by_cases h : y.cps.toList < x.cps.toList
  · simp [h]
  · simp only [h, if_false]
    by_cases h2 : x.cps.toList < y.cps.toList
    · simp [h2]
    · simp [h2]
theorem cmpS_lt (x y : Str) : decide (x.cps.toList < y.cps.toList) = decide (cmpS x y < 0) := by
  rw [cmpS_sign]; apply decide_eq_decide.mpr
  by_cases h : y.cps.toList < x.cps.toList
  · have := List.lt_asymm h
    simp [h, this]
  · simp only [h, if_false]
    by_cases h2 : x.cps.toList < y.cps.toList
    · simp [h2]
    · simp [h2]
theorem cmpS_ne (x y : Str) : (x != y) = decide (cmpS x y ≠ 0) := by
  by_cases h : x = y
  · have h' := (cmpS_eq x y).mpr h; rw [h']; simp [h]
  · have : cmpS x y ≠ 0 := fun e => h ((cmpS_eq x y).mp e); simp [h, this]
section
variable {w : World} {loose : List Str} {mean : ExcName → Option Value} {mg mb : Str → Option Value} {A : Around} {E : Value → Shared → Prop} {s : Shared} {env : Env}
theorem cmpGt {x y : Th} {k : Int} {v v' : Value} {Q : Value → Shared → Prop} (h1 : ThV x k v) (h2 : ThV y k v') (hQ : Q (.bool (decide (0 < cmp4 x y k))) s) : wpAny (model PR w) A (compareOp .Gt v v') Q E s := by
  cases h1 with
  | k0 t => cases h2; exact PyProof.Rows.gt_int (by rw [cmpI_gt]; exact hQ)
  | k1 t => cases h2; exact PyProof.Rows.gt_int (by rw [cmpI_gt]; exact hQ)
  | k2 t => cases h2; exact PySem.P.gt_str (by rw [cmpS_gt]; exact hQ)
  | k3 t => cases h2; exact PyProof.Rows.gt_int (by rw [cmpI_gt]; exact hQ)
theorem cmpLt {x y : Th} {k : Int} {v v' : Value} {Q : Value → Shared → Prop} (h1 : ThV x k v) (h2 : ThV y k v') (hQ : Q (.bool (decide (cmp4 x y k < 0))) s) : wpAny (model PR w) A (compareOp .Lt v v') Q E s := by
  cases h1 with
  | k0 t => cases h2; exact PySem.P.lt_int (by rw [cmpI_lt]; exact hQ)
  | k1 t => cases h2; exact PySem.P.lt_int (by rw [cmpI_lt]; exact hQ)
  | k2 t => cases h2; exact PySem.P.lt_str (by rw [cmpS_lt]; exact hQ)
  | k3 t => cases h2; exact PySem.P.lt_int (by rw [cmpI_lt]; exact hQ)
theorem cmpNe {x y : Th} {k : Int} {v v' : Value} {Q : Value → Shared → Prop} (h1 : ThV x k v) (h2 : ThV y k v') (hQ : Q (.bool (decide (cmp4 x y k ≠ 0))) s) : wpAny (model PR w) A (compareOp .NotEq v v') Q E s := by
  cases h1 with
  | k0 t => cases h2; exact PyProof.Rows.ne_int (by rw [cmpI_ne]; exact hQ)
  | k1 t => cases h2; exact PyProof.Rows.ne_int (by rw [cmpI_ne]; exact hQ)
  | k2 t => cases h2; exact PyProof.Rows.ne_str (by rw [cmpS_ne]; exact hQ)
  | k3 t => cases h2; exact PyProof.Rows.ne_int (by rw [cmpI_ne]; exact hQ)
/-- 1 if one[0][k] > two[0][k] else -1 if one[0][k] < two[0][k] else 0 -/
theorem signE {o1 o2 o3 o4 : Expr} {kk : Str} {p2 p3 p4 p5 p7 p8 p9 p10 p12 p13 p14 p15 p17 p18 p19 p20 pa pb pc pd pe pf pg ph : Pos} {k1 k2 k3 : Nat} {a1 a2 ta1 ta2 : Addr} {fa1 fa2 : Value} {n1 n2 : Nat} {x y : Th} {k : Int} {Q : Value → Shared → Prop}
    (hv1 : ∀ tk, wpAny (model PR w) A (eval o1 env) (fun v s₁ => v = .ref a1 ∧ ∃ tk, s₁ = { s with toks := tk }) E { s with toks := tk }) (hv2 : ∀ tk, wpAny (model PR w) A (eval o2 env) (fun v s₁ => v = .ref a2 ∧ ∃ tk, s₁ = { s with toks := tk }) E { s with toks := tk })
    (hv3 : ∀ tk, wpAny (model PR w) A (eval o3 env) (fun v s₁ => v = .ref a1 ∧ ∃ tk, s₁ = { s with toks := tk }) E { s with toks := tk }) (hv4 : ∀ tk, wpAny (model PR w) A (eval o4 env) (fun v s₁ => v = .ref a2 ∧ ∃ tk, s₁ = { s with toks := tk }) E { s with toks := tk })
    (e1 : s.heap.get? a1 = some (PySem.W.listOf #[.ref ta1, fa1] n1)) (e2 : s.heap.get? a2 = some (PySem.W.listOf #[.ref ta2, fa2] n2)) (th1 : ThAt s.heap ta1 x) (th2 : ThAt s.heap ta2 y) (hk : InR k)
    (hkk : ∀ p tk (Q' : Value → Shared → Prop), (∀ t, Q' (.int k t) { s with toks := tk }) → wpAny (model PR w) A (eval (.Name kk p) env) Q' E { s with toks := tk })
    (hQ : ∀ t tk, Q (.int (cmp4 x y k) t) { s with toks := tk }) :
    wpAny (model PR w) A (eval (.IfExp (.Compare (.Subscript (.Subscript o1 (.Constant (.int 0) 0 p2) p3) (.Name kk p4) p5) [.Gt] [.Subscript (.Subscript o2 (.Constant (.int 0) 0 p7) p8) (.Name kk p9) p10] pa) (.Constant (.int 1) k1 pb)
      (.IfExp (.Compare (.Subscript (.Subscript o3 (.Constant (.int 0) 0 p12) p13) (.Name kk p14) p15) [.Lt] [.Subscript (.Subscript o4 (.Constant (.int 0) 0 p17) p18) (.Name kk p19) p20] pc) (.UnaryOp .USub (.Constant (.int 1) k2 pd) pe) (.Constant (.int 0) k3 pf) pg) ph) env) Q E s := by
  have hc := cmp4_pos x y k
  refine wpAny_IfExp (wpAny_isTrue_Compare1 ?_)
  refine oneK (hv1 _) e1 th1 hk (fun tk Q' h => hkk _ tk Q' h) fun v tk1 V1 => ?_
  refine oneK (s := { s with toks := tk1 }) (hv2 _) e2 th2 hk (fun tk Q' h => hkk _ tk Q' h) fun v' tk2 V2 => ?_
  refine cmpGt V1 V2 (wpAny_truthy_bool ?_)
  by_cases h1 : 0 < cmp4 x y k
  · rw [if_pos h1] at hc
    rw [if_pos (by simpa using h1)]
    exact conI fun t tk => hc ▸ hQ t tk
  · rw [if_neg h1] at hc
    rw [if_neg (by simpa using h1)]
    refine wpAny_IfExp (wpAny_isTrue_Compare1 ?_)
    refine oneK (s := { s with toks := tk2 }) (hv3 _) e1 th1 hk (fun tk Q' h => hkk _ tk Q' h) fun v tk3 V3 => ?_
    refine oneK (s := { s with toks := tk3 }) (hv4 _) e2 th2 hk (fun tk Q' h => hkk _ tk Q' h) fun v' tk4 V4 => ?_
    refine cmpLt V3 V4 (wpAny_truthy_bool ?_)
    by_cases h2 : cmp4 x y k < 0
    · rw [if_pos h2] at hc
      rw [if_pos (by simpa using h2)]
      exact wpAny_UnaryOp (conI fun t tk => PySem.P.neg_int (hc ▸ hQ _ _))
    · rw [if_neg h2] at hc
      rw [if_neg (by simpa using h2)]
      exact conI fun t tk => hc ▸ hQ t tk
end
end Mine
end
section
open PySem PySem.W PySem.Calls PyProof.Rows
set_option Elab.async false
set_option maxRecDepth 100000
set_option maxHeartbeats 8000000
set_option linter.unusedVariables false
namespace Mine
section
variable {w : World} {loose : List Str} {mean : ExcName → Option Value} {mg mb : Str → Option Value} {A : Around} {E : Value → Shared → Prop} {s : Shared} {L : Addr} {q : LP}
theorem st6 {lt : Addr} {fs ts : List Value} {xs : List Int} (S : LSt w loose mean mg mb L q s.heap) (r : Rm A 30) (hm : q.c3 = some (.ref lt)) (hF : RowsAt (RowR xs fs) xs.length lt ts (fx L s.heap)) (hsz : xs.length ≤ 60) :
    wpAny (model PR w) A (exec (lawS 6) (lawE L)) (Nx s fun h' => ∃ lf vs, LSt w loose mean mg mb L { q with m := fun z => if z = Str.ofString "signs" then some (.ref lf) else q.m z } h' ∧ Below (fx L s.heap) (fx L h') ∧ RowsAt (RowT xs) xs.length lf vs (fx L h')) E s := by
  have X := S.X
  have T := S.T
  obtain ⟨Ah, Ad, Af, Ag, Au⟩ := A
  obtain rfl : Ah = none := r.1
  obtain ⟨⟨c, hlt⟩, hlen, hrow⟩ := hF
  refine compA (by kernel_rfl!) (cl := []) ?c1 rfl ?c3 ?c4 ?_
  case c1 => kernel_rfl!
  case c3 => decide
  case c4 => intro; rfl
  refine wpAny_Call_NameR (ldB X T (hide_below _ _) rfl rfl rfl rfl (v := .type "zip") (by kernel_rfl!) (by kernel_rfl!) (by decide) rfl ?_)
  refine PyProof.Rows.callWith_type1 ?_
  have i3 : s.heap.IsCell (L + 1 + 1 + 1) (some (.ref lt)) := hm ▸ S.i3
  refine spliced_cons (nmC rfl rfl (lawE_due L) i3 rfl ?_)
  refine spliced_cons ?_
  refine rotE (fun p h tk Q' kb hq => nmC rfl rfl (lawE_due L) (cell_at i3 fun o e => kb _ _ e) rfl hq) (of_hideAll _ hlt) (by exact fk2 1 1 1 (.v 0) (.n 60) (.v 1) (.n 60) (.v 0) (.v 1) rfl [_, _] hsz (Nat.le_of_eq hlen)) fun D1 h1 tk1 kb1 n1 e1 => ?_
  refine spliced_nil ?_
  have S1 := S.grown kb1
  have hl1 : h1.IsList lt ts.toArray := ⟨_, kb1 _ _ (of_hideAll _ hlt), rfl, _, rfl⟩
  have hl2 : h1.IsList D1 (ts.drop 1 ++ ts.take 1).toArray := ⟨_, e1, rfl, _, rfl⟩
  have en : min ts.toArray.size (ts.drop 1 ++ ts.take 1).toArray.size = xs.length := by
    rw [List.size_toArray, List.size_toArray, rot_len, hlen]; lia
  have fin := finLocal (A := ⟨none, Ad, Af, Ag, Au⟩) (E := E) (s := { s with heap := h1, toks := tk1 }) (y := Str.ofString "signs") (py := ⟨116, 4, 116, 9⟩) (k := 2) (n := xs.length) S1 rfl (rowT_mono xs)
  refine srcZip (s := { s with heap := h1, toks := tk1 }) (k := 2) rfl hl1 hl2 (sz_small (by rw [List.size_toArray]; exact fk2 1 1 1 (.v 0) (.n 64) (.v 1) (.n 60) (.v 0) (.v 1) rfl [_, _] hsz (Nat.le_of_eq hlen))) (fun i v h => RowT xs i v (fx L h)) (fun i v h h' x k => rowT_mono xs i v _ _ x (fx_below k)) (fun _ => rfl) ?_ ?_
  rotate_left
  · rw [en]
    intro D C ys h h₂ tk m a1 a2 a3 a4 a5 a6 a7 a8 a9 a10 a11
    have g := fin D C ys h h₂ tk m a1 a2 a3 a4 a5 a6 a7 a8 a9 a10 a11
    refine wpAny_mono g (fun _ s' hg => ?_) fun _ _ e => e
    obtain ⟨mm, hm1, hg⟩ := hg
    refine ⟨mm, hm1, fun h₄ s₄ => ?_⟩
    obtain ⟨e1', h', tk', e2, lf, fs', S', k', R'⟩ := hg h₄ s₄
    exact ⟨e1', h', tk', e2, lf, fs', S', (fx_below kb1).trans k', R'⟩
  intro wr D C i T0 v1 v2 h tk hx hy hT m kb nC hcs lv n0 hsC
  replace kb : Below h1 h := kb
  have hx' : ts[i]? = some v1 := by simpa using hx
  have hi : i < ts.length := (List.getElem?_eq_some_iff.mp hx').1
  have hy' := rot_get (by simpa using hy) hi
  obtain ⟨a1, ta1, fa1, na1, x1, rfl, ea1, _, ex1, th1⟩ := hrow _ _ hx'
  obtain ⟨a2, ta2, fa2, na2, x2, rfl, ea2, _, ex2, th2⟩ := hrow _ _ hy'
  rw [hlen] at ex2
  obtain ⟨v01, w01⟩ := hcs (C + 1) (by simp [cellsK])
  obtain ⟨v02, w02⟩ := hcs (C + 1 + 1) (by simp [cellsK])
  refine asgT2 rfl hT fun h₂ kb₂ => ?_
  replace kb₂ : Below h h₂ := kb₂
  refine wpAny_storeName_cell (c := C + 1) rfl rfl rfl (cell_at w01 fun o e => kb₂ _ _ e) fun h₃ n₃ s₃ => ?_
  have k3 : ∀ b o, b ≠ C + 1 → h₂.get? b = some o → h₃.get? b = some o := fun b o hb e => (s₃.2 b hb).trans e
  refine wpAny_storeName_cell (c := C + 1 + 1) rfl rfl rfl (cell_at w02 fun o e => k3 _ _ (Nat.succ_ne_self _) (kb₂ _ _ e)) fun h₄ n₄ s₄ => ?_
  have k4 : ∀ b o, b ≠ C + 1 + 1 → h₃.get? b = some o → h₄.get? b = some o := fun b o hb e => (s₄.2 b hb).trans e
  have n3' : h₄.IsCell (C + 1) (some (.ref a1)) := cell_at n₃ fun o e => k4 _ _ (Nat.ne_of_lt (Nat.lt_succ_self _)) e
  have kf : ∀ b o, b ≠ C + 1 → b ≠ C + 1 + 1 → h.get? b = some o → h₄.get? b = some o := fun b o h1 h2 e => k4 b o h2 (k3 b o h1 (kb₂ b o e))
  have c10 : h1.get? (C + 1) = none := n0 (C + 1) (by simp [cellsK])
  have c20 : h1.get? (C + 1 + 1) = none := n0 (C + 1 + 1) (by simp [cellsK])
  have kb4 : Below h1 h₄ := fun b o e => kf b o (fun z => by rw [z, c10] at e; cases e) (fun z => by rw [z, c20] at e; cases e) (kb b o e)
  have ks4 : Below s.heap h₄ := kb1.trans kb4
  have nC4 : h₄.Ns C m := nC.at' fun o e => kf _ _ (Nat.ne_of_lt (Nat.lt_succ_self _)) (Nat.ne_of_lt (Nat.lt_of_lt_of_le (Nat.lt_succ_self _) (Nat.le_add_right _ 1))) e
  have ku : ∀ {ta x}, ThAt (fx L s.heap) ta x → ThAt h₄ ta x := fun ⟨t0, t1, t2, t3, e⟩ => ⟨t0, t1, t2, t3, ks4 _ _ (of_hideAll _ e)⟩
  refine compE (cl := [(Str.ofString "two", C + 1 + 1), (Str.ofString "one", C + 1)]) ?d1 rfl ?d3 ?d4 ?_
  case d1 => kernel_rfl!
  case d3 => decide
  case d4 => intro; rfl
  refine wpAny_Call_NameR (ldB X T ((hide_below _ _).trans ks4) rfl rfl rfl rfl (v := .type "range") (by kernel_rfl!) (by kernel_rfl!) (by decide) rfl ?_)
  refine PyProof.Rows.callWith_type1 ?_
  refine spliced_cons (conI (p := ⟨116, 96, 116, 97⟩) (k := 0) fun t0 tk0 => spliced_nil ?_)
  refine srcRange (s := { s with heap := h₄, toks := tk0 }) (k := 0) rfl (fun i v h => Row4 (thOf x1) (thOf x2) i v) (fun i v h h' x _ => x) (fun _ => rfl) ?_ ?_
  rotate_left
  · refine finB (s := { s with heap := h₄, toks := tk0 }) (R := fun i v h => Row4 (thOf x1) (thOf x2) i v) (fun i v h h' x _ => x) fun D5 ys h₅ tk₅ D50 k5 ⟨c5, e5⟩ ly hys => ?_
    replace k5 : Below h₄ h₅ := k5
    replace D50 : h₄.get? D5 = none := D50
    have lv4 : ∀ b ∈ D :: C :: (cellsK 2 C ++ wr), ∃ o, h₄.get? b = some o := fun b hb => by
      obtain ⟨o, e⟩ := lv b hb
      by_cases q1 : b = C + 1
      · obtain ⟨o', e', _⟩ := n3'; exact ⟨o', q1 ▸ e'⟩
      by_cases q2 : b = C + 1 + 1
      · obtain ⟨o', e', _⟩ := n₄; exact ⟨o', q2 ▸ e'⟩
      exact ⟨o, kf b o q1 q2 e⟩
    refine ⟨h₅, tk₅, m, rfl, fun b o hb e => k5 b o (kf b o (fun z => hb (by simp [cellsK, z])) (fun z => hb (by simp [cellsK, z])) e), nC4.keeps k5, fun a ha => ?_, D5, ys, c5, rfl, ?_, ly, ?_⟩
    · have ha' : a = C + 1 ∨ a = C + 1 + 1 := by
        obtain ⟨j, hj, e⟩ := List.mem_map.mp ha
        have hj2 := List.mem_range.mp hj
        rcases j with _ | _ | j
        · exact .inl e.symm
        · exact .inr e.symm
        · exact fkF (fk1 0 1 (.n 1) (.n 0) (.a (.a (.a (.v 0) (.n 1)) (.n 1)) (.n 1)) (.n 2) rfl [_] hj2)
      rcases ha' with rfl | rfl
      · exact ⟨_, cell_at n3' fun o e => k5 _ _ e⟩
      · exact ⟨_, cell_at n₄ fun o e => k5 _ _ e⟩
    · exact fresh_in (h := h₄) e5 D50 lv4 (fun b hb => let ⟨o, e⟩ := S.live b hb; ⟨o, ks4 _ _ e⟩)
    · rw [thAt_of ex1, thAt_of ex2]
      exact hys
  intro I' D' C' k t' h' tk' hk m' kb' nC' hcs' lv' n0' hsC'
  replace kb' : Below h₄ h' := kb'
  have C0' : h₄.get? C' = none := n0' C' (by simp)
  refine wpAny_assign_Name (wpAny_storeName_local rfl nC' fun h₅ n₅ s₅ => ?_)
  have k5 : ∀ b o, b ≠ C' → h'.get? b = some o → h₅.get? b = some o := fun b o hb e => (s₅.2 b hb).trans e
  have kb5 : Below h₄ h₅ := fun b o e => k5 b o (fun z => by rw [z, C0'] at e; cases e) (kb' b o e)
  have n₅' : h₅.Ns C' fun z => if z = Str.ofString "k" then some (.int k t') else m' z := n₅
  have hk4 : InR (k : Int) := ⟨by lia, by lia⟩
  have w1 : h₅.IsCell (C + 1) (some (.ref a1)) := cell_at n3' fun o e => kb5 _ _ e
  have w2 : h₅.IsCell (C + 1 + 1) (some (.ref a2)) := cell_at n₄ fun o e => kb5 _ _ e
  have up : ∀ {ta x}, ThAt h₄ ta x → ThAt h₅ ta x := fun ⟨t0, t1, t2, t3, e⟩ => ⟨t0, t1, t2, t3, kb5 _ _ e⟩
  refine signE (fun tk => nmC rfl rfl rfl w1 rfl ⟨rfl, _, rfl⟩) (fun tk => nmC rfl rfl rfl w2 rfl ⟨rfl, _, rfl⟩) (fun tk => nmC rfl rfl rfl w1 rfl ⟨rfl, _, rfl⟩) (fun tk => nmC rfl rfl rfl w2 rfl ⟨rfl, _, rfl⟩)
    (kb5 _ _ (ks4 _ _ (of_hideAll _ ea1))) (kb5 _ _ (ks4 _ _ (of_hideAll _ ea2))) (up (ku th1)) (up (ku th2)) hk4 (fun p tk Q' h => nmL rfl rfl n₅' rfl rfl (h _)) fun t tk => ?_
  exact ⟨_, _, _, rfl, fun b o hb e => k5 b o (fun z => hb (z ▸ .head _)) e, n₅', fun a ha => by simp [cellsK] at ha, t, rfl⟩
end
end Mine
end
section
open PySem PySem.W PySem.Calls PyProof.Rows
set_option Elab.async false
set_option maxRecDepth 100000
set_option maxHeartbeats 8000000
set_option linter.unusedVariables false
namespace Mine
noncomputable abbrev wiB (p0 p1 p2 p3 p4 : Pos) : Expr := .Subscript (.Subscript (.Name (Str.ofString "thing") p0) (.Constant (.int 0) 0 p1) p2) (.Name (Str.ofString "wish") p3) p4
noncomputable abbrev wiP (q0 : Pos) : Arguments := ⟨[], [⟨Str.ofString "thing", none, q0⟩], none, [], [], none, []⟩
noncomputable abbrev wiS : Scope := { kind := .function, names := [(Str.ofString "thing", .local), (Str.ofString "wish", .free)], isGenerator := false, isCoroutine := false, more := [] }
/-- rows of four things and a file -/
noncomputable def ItemsAt (th : Nat → Th) (vs : List Value) (h : Heap) : Prop := ∀ i v, vs[i]? = some v → ∃ t ta fa n, v = .ref t ∧ h.get? t = some (PySem.W.listOf #[.ref ta, fa] n) ∧ ThAt h ta (th i)
theorem thV_type {x : Th} {k : Int} {v : Value} (h : ThV x k v) : ∀ (s : Shared), s.TypeIs v (if k = 2 then "str" else "int") := by
  intro s
  cases h with
  | k0 t => exact typeIs_int s _ t
  | k1 t => exact typeIs_int s _ t
  | k2 t => exact typeIs_str s _ t
  | k3 t => exact typeIs_int s _ t
section
variable {w : World} {loose : List Str} {mean : ExcName → Option Value} {mg mb : Str → Option Value} {A : Around} {s₀ : Shared} {th : Nat → Th} {vs : List Value} {fa cw c' : Addr} {wish : Int} {tw : Tok} {name qual : Str} {q0 p0 p1 p2 p3 p4 : Pos} {pm ct : Value}
theorem wish_key (W : Wd w loose mean mg mb s₀.heap) (r : Rm A 14) (h100 : s₀.heap.get? 100 = some (tabObj #[])) (ho : s₀.heap.get? fa = some (kla_obj name qual (wiP q0) (wiB p0 p1 p2 p3 p4) wiS [(Str.ofString "wish", cw)] pm c' ct)) (hrec : s₀.heap.CodeRec (.ref c') qual) (hc' : (c' : Nat) ≠ 100)
    (hcw : s₀.heap.IsCell cw (some (.int wish tw))) (hw : InR wish) (items : ItemsAt th vs s₀.heap) :
    ∀ i v s', vs[i]? = some v → Of s₀ s' → Ext1 s₀.heap s'.heap → TabZ False s'.heap → wpAny (model PR w) A (call (.ref fa) [v]) (fun k s'' => StpZ False s' s'' ∧ ThV (th i) wish k) (fun _ _ => False) s' := by
  rintro i v s' hv of x t
  have e : ∀ b o, o.cls ≠ .none → s₀.heap.get? b = some o → s'.heap.get? b = some o := fun b o hc q => x b o (ne100 h100 q hc) q
  have W' := W.next x t.1
  obtain ⟨a, ta, fv, n, rfl, e1, th1⟩ := items i v hv
  have h100' : s'.heap.get? 100 = some (tabObj #[]) := t.2.resolve_left id
  obtain ⟨Ah, Ad, Af, Ag, Au⟩ := A
  obtain rfl : Ah = none := r.1
  have hrec' : s'.heap.CodeRec (.ref c') qual := by
    obtain ⟨c2, oc, vs2, t2, ec, g2, d1, d2⟩ := hrec
    cases ec
    exact ⟨c', oc, vs2, t2, rfl, x _ _ hc' g2, d1, d2⟩
  obtain ⟨ow, hcw1, hcw2⟩ := hcw
  have ncw : cw ≠ 100 := fun z => by rw [z, h100] at hcw1; cases hcw1; cases hcw2
  obtain ⟨t0, t1, t2, t3, eta⟩ := th1
  refine enterL W' r (e _ _ (by intro z; cases z) ho) rfl hrec' rfl (locs rfl) ?_
  intro ps h₁ tk V h100'' hlt r' x₁ kAll F N
  rw [h100'] at h100''
  cases h100''
  refine oneK (a := a) (ta := ta) (x := th i) (k := wish) (s := { s' with heap := h₁, toks := tk }) (nmL rfl rfl F.ns rfl rfl ⟨rfl, _, rfl⟩) (kAll _ _ (e _ _ (by intro z; cases z) e1)) ⟨t0, t1, t2, t3, kAll _ _ (e _ _ (by intro z; cases z) eta)⟩ hw
    (fun tk' Q' h' => nmF rfl rfl rfl ⟨ow, kAll _ _ (x _ _ ncw hcw1), hcw2⟩ rfl rfl (h' _)) fun v' tk' hV => ?_
  have e100 : h₁.get? 100 = some (tabObj #[]) := kAll _ _ h100'
  exact ⟨⟨⟨h₁, tk', rfl, x₁, #[], e100, .inl rfl⟩, .inr e100⟩, hV⟩
theorem wish_sortAsk (W : Wd w loose mean mg mb s₀.heap) (r : Rm A 14) (h100 : s₀.heap.get? 100 = some (tabObj #[])) (ho : s₀.heap.get? fa = some (kla_obj name qual (wiP q0) (wiB p0 p1 p2 p3 p4) wiS [(Str.ofString "wish", cw)] pm c' ct)) (hrec : s₀.heap.CodeRec (.ref c') qual) (hc' : (c' : Nat) ≠ 100)
    (hcw : s₀.heap.IsCell cw (some (.int wish tw))) (hw : InR wish) (items : ItemsAt th vs s₀.heap) (h2 : 2 ≤ vs.length) :
    SortAsk False w A s₀ (.ref fa) vs (fun i j => decide (cmp4 (th i) (th j) wish < 0)) (fun i k _ => ThV (th i) wish k) where
  mono := fun i v h h' x _ => x
  key := wish_key W r h100 ho hrec hc' hcw hw items
  kind := fun ks s' hl hKR Q E hq => by
    refine kas_kind (T := .type (if wish = 2 then "str" else "int")) (by exact fk2 1 1 1 (.n 2) (.v 0) (.n 2) (.v 1) (.v 1) (.v 0) rfl [_, _] h2 (Nat.le_of_eq hl.symm)) (fun v hv => ?_) (by split <;> rfl) (by simp) hq
    obtain ⟨i, hi⟩ := List.getElem?_of_mem hv
    exact fun A Q E s k q => wpAny_typeOf (thV_type (hKR i v hi) s) q
  ask := by
    intro i j ki kj s' hi hj h1 h2 of ex t
    have st : StpZ False s' s' := StpZ.refl t
    cases h1 with
    | k0 u => cases h2; exact kat_lt_int ⟨cmpI_lt _ _, st⟩
    | k1 u => cases h2; exact kat_lt_int ⟨cmpI_lt _ _, st⟩
    | k2 u => cases h2; exact kas_lt_str ⟨cmpS_lt _ _, st⟩
    | k3 u => cases h2; exact kat_lt_int ⟨cmpI_lt _ _, st⟩
end
end Mine
end
section
open PySem PySem.W PySem.Calls PyProof.Rows
set_option Elab.async false
set_option maxRecDepth 100000
set_option maxHeartbeats 8000000
set_option linter.unusedVariables false
namespace Mine
noncomputable def vsOf (ts : List Value) (p : List Nat) : List Value := p.map fun i => ts.getD i .none
theorem vsOf_get {ts : List Value} {p : List Nat} {i : Nat} {v : Value} (h : (vsOf ts p)[i]? = some v) (hp : p.Perm (List.range ts.length)) : ts[p.getD i 0]? = some v := by
  unfold vsOf at h
  rw [List.getElem?_map] at h
  cases e : p[i]? with
  | none => rw [e] at h; cases h
  | some j =>
    rw [e] at h
    have hj : j < ts.length := by simpa using hp.mem_iff.mp (List.mem_of_getElem? e)
    rw [List.getD_eq_getElem?_getD, e]
    simp only [Option.map_some, Option.some.injEq] at h
    rw [List.getD_eq_getElem?_getD, List.getElem?_eq_getElem hj] at h
    show ts[j]? = some v
    rw [List.getElem?_eq_getElem hj]
    simpa using h
theorem vsOf_map {ts : List Value} {p q : List Nat} (hq : ∀ i ∈ q, i < p.length) : (q.map fun i => (vsOf ts p).getD i .none) = vsOf ts (q.map fun i => p.getD i 0) := by
  unfold vsOf
  rw [List.map_map]
  refine List.map_congr_left fun i hi => ?_
  have := hq i hi
  simp [List.getD_eq_getElem?_getD, List.getElem?_eq_getElem this]
/-- the wishes as they stand, and one of them from behind -/
theorem drop_back {ws : List (Int × Bool)} {i : Nat} {x : Int × Bool} (h : ws.reverse[i]? = some x) : x :: ws.drop (ws.length - i) = ws.drop (ws.length - (i + 1)) := by
  have hi : i < ws.length := by
    have := (List.getElem?_eq_some_iff.mp h).1
    rwa [List.length_reverse] at this
  rw [List.getElem?_reverse hi] at h
  obtain ⟨hl, e⟩ := List.getElem?_eq_some_iff.mp h
  rw [List.drop_eq_getElem_cons (i := ws.length - (i + 1)) (by exact fk1 1 1 (.a (.v 0) (.n 1)) (.v 1) (.a (.v 0) (.a (.v 2) (.n 1))) (.v 1) rfl [_, _, _] (sb3 (fk1 1 1 (.a (.v 0) (.n 1)) (.v 1) (.a (.v 0) (.n 1)) (.v 1) rfl [_, _] hi)))]
  rw [show ws.length - (i + 1) + 1 = ws.length - i by exact Nat.le_antisymm (fk2 1 1 1 (.a (.v 0) (.n 1)) (.v 1) (.v 2) (.a (.v 1) (.v 3)) (.a (.v 0) (.a (.v 3) (.n 1))) (.v 2) rfl [_, _, _, _] (sb2 _ _) (sb3 (fk1 1 1 (.a (.v 0) (.n 1)) (.v 1) (.a (.v 0) (.n 1)) (.v 1) rfl [_, _] hi))) (fk2 1 1 1 (.v 0) (.a (.v 1) (.n 1)) (.v 2) (.a (.v 1) (.a (.v 3) (.n 1))) (.a (.v 0) (.v 3)) (.v 2) rfl [_, _, _, _] (sb2 _ _) (sb3 (fk1 1 1 (.v 0) (.v 1) (.a (.v 0) (.n 1)) (.v 1) rfl [_, _] hi)))]
  congr 1
  rw [← e]
  congr 1
  exact Nat.le_antisymm (fk3 1 1 1 1 (.v 0) (.v 1) (.v 2) (.a (.v 1) (.a (.v 3) (.n 1))) (.a (.v 0) (.v 3)) (.v 4) (.a (.v 4) (.n 1)) (.v 2) rfl [_, _, _, _, _] (sb2 _ _) (sb3 (fk2 1 1 1 (.v 0) (.v 1) (.a (.v 0) (.n 1)) (.v 2) (.v 2) (.a (.v 1) (.n 1)) rfl [_, _, _] hi (sb2 _ _))) (sb3 (fk1 1 1 (.n 1) (.v 0) (.a (.v 1) (.n 1)) (.v 0) rfl [_, _] hi))) (fk3 1 1 1 1 (.v 0) (.v 1) (.v 2) (.a (.v 1) (.v 3)) (.v 4) (.a (.v 2) (.n 1)) (.a (.v 0) (.a (.v 3) (.n 1))) (.v 4) rfl [_, _, _, _, _] (sb2 _ _) (sb2 _ _) (sb3 (fk1 1 1 (.a (.v 0) (.n 1)) (.v 1) (.a (.v 0) (.n 1)) (.v 1) rfl [_, _] hi)))
/-- the loop of sorts -/
inductive DueG (q₀ : LP) (ts : List Value) (th : Nat → Th) (ws : List (Int × Bool)) (c1 : Addr) (i : Nat) (q : LP) (h : Heap) : Prop
  | mk (lt : Addr) (p : List Nat) (bk c4 : Option Value) (pp : Array Value) (e1 : q = { q₀ with m := fun z => if z = Str.ofString "back" then bk else q₀.m z, c3 := some (.ref lt), c4 := c4, p124 := pp }) (e2 : ∃ n, h.get? lt = some (PySem.W.listOf (vsOf ts p).toArray n)) (e3 : p.Perm (List.range ts.length)) (e4 : p.Pairwise (TT (ltW th (ws.drop (ws.length - i)))))
    (e5 : pp = #[rawInt 112, rawInt 29, .ref c1] ∨ ∃ c2, pp = #[rawInt 112, rawInt 29, .ref c1, rawInt 118, rawInt 30, .ref c2] ∧ h.CodeRec (.ref c2) (Str.ofString "law.<locals>.<lambda>")) : DueG q₀ ts th ws c1 i q h
theorem vsOf_range (ts : List Value) : vsOf ts (List.range ts.length) = ts := by
  unfold vsOf
  refine List.ext_getElem (by simp) fun i h1 h2 => ?_
  simp [List.getD_eq_getElem?_getD, List.getElem?_eq_getElem h2]
theorem lp_due (q : LP) (y : Str) (a b c3 c4 : Option Value) (p : Array Value) (c1 c2 : Option Value) (o : Obj) : ({ m := fun z => if z = y then a else (fun z => if z = y then b else q.m z) z, c1 := c1, c2 := c2, c3 := c3, c4 := c4, o23 := o, p124 := p } : LP) = { m := fun z => if z = y then a else q.m z, c1 := c1, c2 := c2, c3 := c3, c4 := c4, o23 := o, p124 := p } := by rw [twice]
theorem lp_due0 (q : LP) (y : Str) (hc3 : q.c3 = some v) : q = { q with m := fun z => if z = y then q.m y else q.m z, c3 := some v, c4 := q.c4, p124 := q.p124 } := by
  have : (fun z => if z = y then q.m y else q.m z) = q.m := by
    funext z
    by_cases hz : z = y
    · rw [if_pos hz, hz]
    · rw [if_neg hz]
  rw [this, ← hc3]
section
variable {w : World} {loose : List Str} {mean : ExcName → Option Value} {mg mb : Str → Option Value} {A : Around} {E : Value → Shared → Prop} {s : Shared} {L : Addr} {q : LP}
theorem lamT_of {c1 : Addr} {pp : Array Value} {h : Heap} {pos : Pos} (hl : pos.line = 118) (hc : pos.col = 30) (x : pp = #[rawInt 112, rawInt 29, .ref c1] ∨ ∃ c2, pp = #[rawInt 112, rawInt 29, .ref c1, rawInt 118, rawInt 30, .ref c2] ∧ (fx L h).CodeRec (.ref c2) (Str.ofString "law.<locals>.<lambda>")) : LamT L pos pp h ∧ TriplesOk pp.toList := by
  rcases x with rfl | ⟨c2, rfl, r⟩
  · refine ⟨.inl ?_, trivial⟩
    simp [codeAmong, rawInt, hl]
  · refine ⟨.inr ⟨c2, ?_, r⟩, trivial⟩
    simp [codeAmong, rawInt, hl, hc]
theorem st7 {lt D0 c1 : Addr} {fs ts : List Value} {xs : List Int} {ws : List (Int × Bool)} (S : LSt w loose mean mg mb L q s.heap) (r : Rm A 30) (hm : q.c3 = some (.ref lt)) (hF : RowsAt (RowR xs fs) xs.length lt ts (fx L s.heap)) (h5 : 2 ≤ xs.length) (hsz : xs.length ≤ 60) (hp : q.p124 = #[rawInt 112, rawInt 29, .ref c1])
    (hw : (fx L s.heap).IsCell (L + 1 + 1 + 1 + 1 + 1) (some (.ref D0))) (hD : WsAt (fx L s.heap) D0 ws) :
    wpAny (model PR w) A (exec (lawS 7) (lawE L)) (Nx s fun h' => ∃ q', LSt w loose mean mg mb L q' h' ∧ Below (fx L s.heap) (fx L h') ∧ DueG q ts (thAt xs) ws c1 ws.length q' (fx L h')) E s := by
  have X := S.X
  have T := S.T
  obtain ⟨Ah, Ad, Af, Ag, Au⟩ := A
  obtain rfl : Ah = none := r.1
  obtain ⟨⟨c, hlt⟩, hlen, hrow⟩ := hF
  obtain ⟨wv, nw, eD, lw1, lw2, hwv⟩ := hD
  have hw0 : s.heap.IsCell (L + 1 + 1 + 1 + 1 + 1) (some (.ref D0)) := cell_at hw fun o e => of_hideAll _ e
  refine wpAny_For ?_
  refine sliE (fun Q' h => nmC rfl rfl (lawE_wishes L) hw0 rfl h) (of_hideAll _ eD) part0 part0 partN (by decide) (zs := wv.reverse) ?hp (by exact fk2 1 1 1 (.v 0) (.n 64) (.v 0) (.v 1) (.v 1) (.n 4) rfl [_, _] (Nat.le_of_eq lw1) lw2) (ops := [.ref D0, .ref s.heap.objs.size]) rfl fun D1 h1 tk1 kb1 n1 e1 => ?_
  case hp =>
    rw [show (-(1 : Int)) = -1 from rfl, krv_pick]
  have S1 := S.grown kb1
  have D1v : D1 ∉ vol L := fun z => by obtain ⟨o, e⟩ := S.live D1 z; rw [n1] at e; cases e
  have hl1 : (fx L h1).IsList D1 wv.reverse.toArray := ⟨_, hide_get.mpr ⟨e1, D1v⟩, rfl, _, rfl⟩
  have hlen' : ts.length = xs.length := hlen
  refine forList (s := { s with heap := h1, toks := tk1 }) rfl S1 hl1 (DueG q ts (thAt xs) ws c1) ?mono ?h0 ?step ?done
  case mono =>
    rintro i q' h h' ⟨lt', p, bk, c4, pp, e, ⟨n, en⟩, hp1, hp2, hpp⟩ k
    exact ⟨lt', p, bk, c4, pp, e, ⟨n, k _ _ en⟩, hp1, hp2, hpp.imp id fun ⟨c2, e2, r2⟩ => ⟨c2, e2, r2.keeps k⟩⟩
  case h0 =>
    refine ⟨lt, List.range ts.length, _, _, _, lp_due0 q (Str.ofString "back") hm, ⟨c, ?_⟩, List.Perm.refl _, ?_, .inl hp⟩
    · rw [vsOf_range]; exact fx_below kb1 _ _ hlt
    · rw [Nat.sub_zero, List.drop_length]; exact range_ord _ _
  case done =>
    intro q' h tk S' kb G
    rw [show wv.reverse.toArray.size = ws.length by rw [List.size_toArray, List.length_reverse, lw1]] at G
    exact ⟨rfl, h, tk, rfl, q', S', (fx_below kb1).trans kb, G⟩
  intro wr i v q' h tk hx S' kb' G lv
  replace kb' : Below (fx L h1) (fx L h) := kb'
  obtain ⟨lt', p, bk, c4, pp, eq, ⟨n, en⟩, hp1, hp2, hpp⟩ := G
  have hx' : wv.reverse[i]? = some v := by simpa using hx
  have hi : i < wv.length := by
    have := (List.getElem?_eq_some_iff.mp hx').1
    rwa [List.length_reverse] at this
  have hxw : wv[wv.length - 1 - i]? = some v := by rw [← List.getElem?_reverse hi]; exact hx'
  obtain ⟨l, a, t, b, rfl, el, ha, ew⟩ := hwv _ _ hxw
  have kbase : Below (fx L s.heap) (fx L h) := (fx_below kb1).trans kb'
  have ews : ws.reverse[i]? = some (a, b) := by rw [List.getElem?_reverse (by exact fk2 1 1 1 (.a (.v 0) (.n 1)) (.v 1) (.v 2) (.v 1) (.a (.v 0) (.n 1)) (.v 2) rfl [_, _, _] (Nat.le_of_eq lw1) hi), ← lw1]; exact ew
  have hT : h.IsList l #[.int a t, .bool b] := ⟨_, of_hideAll _ (kbase _ _ el), rfl, _, rfl⟩
  refine asgW2 rfl hT fun h₂ kb₂ => ?_
  have S2 := S'.grown kb₂
  refine wpAny_storeName_cell rfl rfl (lawE_wish L) S2.i4 fun h₃ n₃ s₃ => ?_
  obtain ⟨S3, k3⟩ := S2.set4 n₃ s₃
  refine wpAny_storeName_local rfl S3.ns fun h₄ n₄ s₄ => ?_
  obtain ⟨S4, k4⟩ := S3.setL n₄ s₄
  have kf : Below (fx L h) (fx L h₄) := ((fx_below kb₂).trans k3).trans k4
  have en0 := hide_get.mp en
  have en1 := hide_get.mp en0.1
  have ltv : lt' ∉ vol L := en0.2
  have en4 : (fx L h₄).get? lt' = some (PySem.W.listOf (vsOf ts p).toArray n) := kf _ _ (hide_get.mpr ⟨en1.1, ltv⟩)
  have hpp4 : pp = #[rawInt 112, rawInt 29, .ref c1] ∨ ∃ c2, pp = #[rawInt 112, rawInt 29, .ref c1, rawInt 118, rawInt 30, .ref c2] ∧ (fx L h₄).CodeRec (.ref c2) (Str.ofString "law.<locals>.<lambda>") := hpp.imp id fun ⟨c2, e2, r2⟩ => ⟨c2, e2, r2.keeps fun b o e => kf b o (by
    obtain ⟨x1, x2⟩ := hide_get.mp e
    exact hide_get.mpr ⟨of_hideAll _ x1, x2⟩)⟩
  have i34 : h₄.IsCell (L + 1 + 1 + 1) (some (.ref lt')) := by
    have := S4.i3
    rw [eq] at this
    exact this
  refine wpAny_execs_cons ?_
  refine wpAny_Assign_Name ?_ (by kernel_rfl!)
  refine wpAny_Call_Name_kw (ldB X T ((kbase.trans kf).trans (hide_below _ _)) rfl rfl rfl rfl (v := .builtin "sorted") (by kernel_rfl!) (by kernel_rfl!) (by decide) rfl ?_)
  refine callWith_kw ?_
  refine spliced_cons (nmC rfl rfl (lawE_due L) i34 rfl (spliced_nil ?_))
  refine kws_cons ?_
  have hP4 : LamT L ⟨118, 30, 118, 58⟩ pp h₄ ∧ TriplesOk pp.toList := lamT_of rfl rfl hpp4
  have epp : q'.p124 = pp := by rw [eq]
  refine lamL (clos := [(Str.ofString "wish", L + 1 + 1 + 1 + 1)]) S4 ?hd1 ?hc1 ?hv1 ?ht1 fun fa c' ct pm p' h₅ tk₅ S5 k5 fa0 eM rM hca hp' => ?_
  case hd1 => rfl
  case hc1 => kernel_rfl!
  case hv1 => show LamT L _ q'.p124 _; rw [epp]; exact hP4.1
  case ht1 => show TriplesOk q'.p124.toList; rw [epp]; exact hP4.2
  replace k5 : Below (fx L h₄) (fx L h₅) := k5
  refine kws_cons (nmL rfl rfl S5.ns rfl rfl (kws_nil ?_))
  show wpAny _ _ (call (.builtin "sorted") [.ref lt'] [(Str.ofString "key", .ref fa), (Str.ofString "reverse", .bool b)]) _ _ _
  have c100 : (c' : Nat) ≠ 100 := fun z => by
    obtain ⟨c2, oc, vs, t, ec, g2, d1, d2⟩ := rM
    cases ec
    exact (hide_get.mp g2).2 (by simp [z])
  have plen : p.length = ts.length := by simpa using hp1.length_eq
  have vlen : (vsOf ts p).length = ts.length := by unfold vsOf; rw [List.length_map, plen]
  have kb5 : Below (fx L s.heap) (fx L h₅) := (kbase.trans kf).trans k5
  have items : ItemsAt (fun i => thAt xs (p.getD i 0)) (vsOf ts p) h₅ := by
    intro i v hv
    obtain ⟨a, ta, fa, n, x, rfl, e1, _, e3, t0, t1, t2, t3, e4⟩ := hrow _ _ (vsOf_get hv hp1)
    refine ⟨a, ta, fa, n, rfl, of_hideAll _ (kb5 _ _ e1), t0, t1, t2, t3, ?_⟩
    show h₅.get? ta = some ((thAt xs (p.getD i 0)).O t0 t1 t2 t3)
    rw [thAt_of e3]
    exact of_hideAll _ (kb5 _ _ e4)
  have en5 : h₅.get? lt' = some (PySem.W.listOf (vsOf ts p).toArray n) := of_hideAll _ (k5 _ _ en4)
  refine sorted_W (b := b) (s₀ := { s with heap := h₅, toks := tk₅ }) (wish_sortAsk S5.wd (Rm.in1 (Rm.in1 (r.le (by decide)))) S5.t100 (of_hideAll _ eM) (rM.keeps (hide_below _ _)) c100 S5.i4 ha items (by exact fk3 1 1 1 1 (.n 2) (.v 0) (.n 2) (.v 1) (.v 1) (.v 2) (.v 2) (.v 0) rfl [_, _, _] h5 (Nat.le_of_eq hlen'.symm) (Nat.le_of_eq vlen.symm))) (lt1_pre (thAt xs) p a) (by exact fk3 1 1 1 1 (.n 2) (.v 0) (.n 2) (.v 1) (.v 1) (.v 2) (.v 2) (.v 0) rfl [_, _, _] h5 (Nat.le_of_eq hlen'.symm) (Nat.le_of_eq vlen.symm)) (by exact fk3 1 1 1 1 (.a (.v 0) (.n 1)) (.n 64) (.v 1) (.n 60) (.v 2) (.v 1) (.v 0) (.v 2) rfl [_, _, _] hsz (Nat.le_of_eq hlen') (Nat.le_of_eq vlen)) ⟨_, en5, rfl, _, rfl⟩ ⟨S5.tab, .inr S5.t100⟩ ?a1 ?a2 ?a3 ?_
  case a1 => ksk_a1
  case a2 => intro x'; ksk_a2
  case a3 => intro x'; ksk_a3
  rintro D s' qq cc ⟨h₆, tk₆, rfl⟩ x6 tz O D60 eD6
  replace x6 : Ext1 h₅ h₆ := x6
  have e100 : h₆.get? 100 = some (tabObj #[]) := tz.2.resolve_left id
  have kb6 : Below h₅ h₆ := fun b o e => by
    by_cases hb : b = 100
    · rw [hb, S5.t100] at e; cases e; rw [hb]; exact e100
    · exact x6 b o hb e
  have S6 := S5.grown kb6
  replace D60 : h₅.get? D = none := D60
  refine wpAny_storeName_cell rfl rfl (lawE_due L) S6.i3 fun h₇ n₇ s₇ => ?_
  obtain ⟨S7, k7⟩ := S6.set3 n₇ s₇
  have kT : Below (fx L h₄) (fx L h₇) := (k5.trans (fx_below kb6)).trans k7
  refine wpAny_execs_nil ⟨rfl, h₇, _, _, rfl, S7, kf.trans kT, ?_⟩
  have lv5 : ∀ b ∈ wr, ∃ o, h₅.get? b = some o := fun b hb => by
    obtain ⟨o, e⟩ := lv b hb
    by_cases hv : b ∈ vol L
    · exact S5.live b hv
    · exact ⟨o, of_hideAll _ (k5 _ _ (kf _ _ (hide_get.mpr ⟨e, hv⟩)))⟩
  have Dv : D ∉ vol L := fun z => by obtain ⟨o, e⟩ := S5.live D z; rw [D60] at e; cases e
  have Dw : D ∉ wr := fun z => by obtain ⟨o, e⟩ := lv5 D z; rw [D60] at e; cases e
  have inZ : ∀ b o, (fx L h₆).get? b = some o → b ∉ wr → (fx L (hideAll h₇ wr)).get? b = some o := fun b o e hb => by
    have e' := hide_get.mp (k7 b o e)
    exact hide_get.mpr ⟨hide_get.mpr ⟨e'.1, hb⟩, e'.2⟩
  rw [vlen] at O
  have hq : ∀ i ∈ qq, i < p.length := fun i hi => by rw [plen]; simpa using O.1.mem_iff.mp hi
  obtain ⟨r1, r2⟩ := radix (th := thAt xs) hp1 hp2 O
  rw [drop_back ews] at r2
  refine ⟨D, qq.map fun i => p.getD i 0, some (.bool b), some (.int a t), p', ?_, ⟨cc, inZ _ _ (hide_get.mpr ⟨?_, Dv⟩) Dw⟩, r1, r2, ?_⟩
  · rw [eq]
    exact lp_due _ _ _ _ _ _ _ _ _ _
  · rw [← vsOf_map hq]
    exact eD6
  · have kz : Below (fx L (hideAll h wr)) (fx L (hideAll h₇ wr)) := fx_hide (kf.trans kT)
    have epp' : q'.p124 = pp := epp
    rcases hp' with hp' | ⟨hn, c0, hp'⟩
    · have hp'' : p' = q'.p124 := hp'
      rw [epp'] at hp''
      subst hp''
      rcases hpp with h0 | ⟨c2, h2, r2⟩
      · rw [h0] at hca
        simp [codeAmong, rawInt] at hca
      · exact .inr ⟨c2, h2, r2.keeps kz⟩
    · have hn' : codeAmong ⟨118, 30, 118, 58⟩ q'.p124.toList = none := hn
      have hp'' : p' = q'.p124 ++ #[rawInt 118, rawInt 30, .ref c'] := hp'
      rw [epp'] at hn' hp''
      rcases hpp with h0 | ⟨c2, h2, r2⟩
      · refine .inr ⟨c', by rw [hp'', h0]; rfl, ?_⟩
        have c0' : h₄.get? c' = none := c0
        have lv4 : ∀ b ∈ wr, ∃ o, h₄.get? b = some o := fun b hb => by
          obtain ⟨o, e⟩ := lv b hb
          by_cases hv : b ∈ vol L
          · exact S4.live b hv
          · exact ⟨o, of_hideAll _ (kf _ _ (hide_get.mpr ⟨e, hv⟩))⟩
        obtain ⟨c3, oc, vs, t, ec, g2, d1, d2⟩ := rM
        cases ec
        exact ⟨c', oc, vs, t, rfl, inZ _ _ (fx_below kb6 _ _ g2) (fun z => by obtain ⟨o, e⟩ := lv4 c' z; rw [c0'] at e; cases e), d1, d2⟩
      · rw [h2] at hn'
        simp [codeAmong, rawInt] at hn'
end
end Mine
end
section
open PySem PySem.W PySem.Calls PyProof.Rows
set_option Elab.async false
set_option maxRecDepth 100000
set_option maxHeartbeats 8000000
set_option linter.unusedVariables false
namespace Mine
section
variable {w : World} {A : Around} {E : Value → Shared → Prop} {s : Shared}
/-- a comprehension over a list, with tests; what is kept is told by J -/
theorem compT {elt iter target : Expr} {ifs : List Expr} {scope : Scope} {cl : List (Str × Addr)} {pos : Pos} {env : Env} {ax : Addr} {its : Array Value} {k : Nat} {Q : Value → Shared → Prop} (J : Nat → List Value → Prop)
    (hh : A.handled = none) (hl : s.heap.IsList ax its) (hsz : its.size ≤ sizeLine) (hpc : ∀ h, pushCells h scope.names = pushK k h)
    (h0 : J 0 [])
    (step : ∀ (D C : Addr) (i : Nat) (ys : List Value) (v : Value) (h : Heap) (tk : Nat) m, its[i]? = some v → J i ys → Below s.heap h → h.Ns C m → (∀ a ∈ cellsK k C, ∃ v, h.IsCell a v) → (∀ b ∈ D :: C :: cellsK k C, s.heap.get? b = none) →
      wpAny (model PR w) A (assign target (compEnvC scope (cellsFrom (C + 1) scope.names cl) C env) v) (fun _ s₂ =>
          wpAny (model PR w) A (forIn ifs true fun c r => if r = true then do let ok ← isTrue c (compEnvC scope (cellsFrom (C + 1) scope.names cl) C env) (eval c (compEnvC scope (cellsFrom (C + 1) scope.names cl) C env)); pure (ForInStep.yield ok) else pure (ForInStep.yield r)) (fun ok s₃ =>
            if ok = true then wpAny (model PR w) A (eval elt (compEnvC scope (cellsFrom (C + 1) scope.names cl) C env)) (fun y s₄ => TurnK s k C h (fun _ => J (i + 1) (ys ++ [y])) s₄) (fun _ _ => False) s₃
            else TurnK s k C h (fun _ => J (i + 1) ys) s₃) (fun _ _ => False) s₂) (fun _ _ => False) { s with heap := h, toks := tk })
    (hQ : ∀ D (ys : List Value) h' tk', J its.size ys → s.heap.get? D = none → Below s.heap h' → (∃ c, h'.get? D = some (PySem.W.listOf ys.toArray c)) → Q (.ref D) { s with heap := h', toks := tk' }) :
    wpAny (model PR w) A (pyIter (.ref ax)) (fun it s₂ => CompRun w A E elt target iter ifs scope cl pos env (compPost (model PR w) A E none Q) it s₂) E s := by
  obtain ⟨o, e, _⟩ := id hl
  have lt := Heap.lt_size e
  refine wpAny_pyIter_list hl ?_
  have up : Below s.heap (s.heap.push { cls := .type "list_iterator", data := .fields #[.ref ax, .int 0 0] }) := fun b o e => Heap.get?_push_of_some _ e
  have I0 : s.heap.get? s.heap.objs.size = none := Heap.get?_none_of_le (Nat.le_refl _)
  have cv : ∀ h, Kp [s.heap.objs.size] (s.heap.push { cls := .type "list_iterator", data := .fields #[.ref ax, .int 0 0] }) h → Below s.heap h := fun h kp b o e => kp b o (fun hm => by rw [List.mem_singleton.mp hm, I0] at e; cases e) (up b o e)
  have nn : ∀ b, (s.heap.push { cls := .type "list_iterator", data := .fields #[.ref ax, .int 0 0] }).get? b = none → s.heap.get? b = none := fun b e => by
    cases q : s.heap.get? b with
    | none => rfl
    | some o => rw [up b o q] at e; cases e
  refine blockH (s := { s with heap := s.heap.push { cls := .type "list_iterator", data := .fields #[.ref ax, .int 0 0] } }) (fun _ i ys _ => J i ys) (KTurns.ofWalks (Walks.list hh s.heap.objs.size ax (Nat.ne_of_lt lt) its) fun i v s Q E st q => letGo_listiter st.1 q) (fun s Q E st q => wpAny_pyIter_listiter st.1 q) hsz ?_ ⟨⟨_, Heap.get?_push_size _ rfl, rfl, rfl⟩, hl.push _⟩ (fun i h st b hb => ?_) hpc (fun _ _ _ _ _ x _ => x) (fun _ => h0) ?_ ?_
  · intro b hb
    show b < (s.heap.push _).objs.size
    rw [Heap.size_push]
    rcases List.mem_cons.mp hb with rfl | hb
    · exact Nat.lt_succ_self _
    · rw [List.mem_singleton.mp hb]; exact Nat.lt_succ_of_lt lt
  · rw [List.mem_singleton.mp hb]
    obtain ⟨o, e, _⟩ := st.1
    exact ⟨o, e⟩
  · intro D C i ys v h tk m hi hP hJ kp pl nC hcs lv n0 hsC
    exact step D C i ys v h tk m hP hJ (cv h kp) nC hcs fun b hb => nn b (n0 b hb)
  · intro D C ys h tk m hJ kp pl nC n0 dc
    refine ⟨m, nC, fun h₄ s₄ => ?_⟩
    have k4 : ∀ b o, b ≠ C → h.get? b = some o → h₄.get? b = some o := fun b o hb e => (s₄.2 b hb).trans e
    have hC := nn C (n0 C (by simp))
    obtain ⟨cz, ez⟩ := pl
    exact hQ D ys h₄ _ hJ (nn D (n0 D (by simp))) (fun b o e => k4 b o (fun z => by rw [z, hC] at e; cases e) (cv h kp b o e)) ⟨cz, k4 _ _ dc ez⟩
/-- the last item of a list -/
theorem subLast {value : Expr} {p1 p2 p3 : Pos} {k : Nat} {env : Env} {l : Addr} {vs : List Value} {n : Nat} {v : Value} {Q : Value → Shared → Prop}
    (h : wpAny (model PR w) A (eval value env) (fun o s₁ => o = .ref l ∧ s₁.heap.get? l = some (PySem.W.listOf vs.toArray n) ∧ ∀ tk, Q v { s₁ with toks := tk }) E s)
    (hv : vs.getLast? = some v) (hsz : vs.length ≤ 60) :
    wpAny (model PR w) A (eval (.Subscript value (.UnaryOp .USub (.Constant (.int 1) k p1) p2) p3) env) Q E s := by
  have hne : 0 < vs.length := by cases vs with | nil => cases hv | cons a b => simp
  refine Subscript_ (wpAny_mono h (fun o s₁ h₁ => ?_) fun _ _ e => e)
  obtain ⟨rfl, hl, hq⟩ := h₁
  refine wpAny_UnaryOp (conI fun t tk => PySem.P.neg_int ?_)
  have hL : s₁.heap.IsList l vs.toArray := ⟨_, hl, rfl, _, rfl⟩
  refine kde_neg (k := -1) (j := vs.length - 1) (v := v) hL (by decide) (by decide) ?_ ?_ (hq _) rfl
  · unfold seqIndex?
    simp
    lia
  · rw [List.getLast?_eq_getElem?] at hv
    exact hv
end
end Mine
end
section
open PySem PySem.W PySem.Calls PyProof.Rows
set_option Elab.async false
set_option maxRecDepth 100000
set_option maxHeartbeats 8000000
set_option linter.unusedVariables false
namespace Mine
section
variable {w : World} {A : Around} {E : Value → Shared → Prop} {s : Shared}
theorem subJ {value : Expr} {p1 p2 : Pos} {k : Nat} {env : Env} {Q : Value → Shared → Prop}
    (h : wpAny (model PR w) A (eval value env) (fun o s₁ => ∃ (l : Addr) (vs : List Value) (n : Nat) (v : Value), o = .ref l ∧ s₁.heap.get? l = some (PySem.W.listOf vs.toArray n) ∧ vs.head? = some v ∧ ∀ tk, Q v { s₁ with toks := tk }) E s) :
    wpAny (model PR w) A (eval (.Subscript value (.Constant (.int 0) k p1) p2) env) Q E s := by
  refine Subscript_ (wpAny_mono h (fun o s₁ h₁ => ?_) fun _ _ e => e)
  obtain ⟨l, vs, n, v, rfl, hl, hv, hq⟩ := h₁
  refine conI fun t tk => ?_
  have hL : s₁.heap.IsList l vs.toArray := ⟨_, hl, rfl, _, rfl⟩
  refine tail_any (s := { s₁ with toks := tk }) (ops := [.ref l, .int 0 t]) hL.typeIs slot_list_getitem.lookup (wpAny_getItem_list hL (by decide) (by decide) ?_ (hq tk)) rfl
  rw [List.head?_eq_getElem?] at hv
  simpa using hv
end
noncomputable def keepP (xs : List Int) (ws : List (Int × Bool)) (l k : Nat) : Bool := decide (∀ w ∈ ws, cmp4 (thAt xs k) (thAt xs l) w.1 = 0)
theorem vsOf_snoc {ts : List Value} {l : List Nat} {j : Nat} {v : Value} (h : ts[j]? = some v) : vsOf ts (l ++ [j]) = vsOf ts l ++ [v] := by
  unfold vsOf
  rw [List.map_append, List.map_cons, List.map_nil, List.getD_eq_getElem?_getD, h]
  rfl
theorem keep_pos {p : List Nat} {i j : Nat} {f : Nat → Bool} (h : p[i]? = some j) (hf : f j = true) : (p.take (i + 1)).filter f = (p.take i).filter f ++ [j] := by
  rw [take_snoc h, List.filter_append, List.filter_cons_of_pos hf, List.filter_nil]
theorem keep_neg {p : List Nat} {i j : Nat} {f : Nat → Bool} (h : p[i]? = some j) (hf : ¬ f j = true) : (p.take (i + 1)).filter f = (p.take i).filter f := by
  rw [take_snoc h, List.filter_append, List.filter_cons_of_neg hf, List.filter_nil, List.append_nil]
theorem cmp4_self (x : Th) (k : Int) : cmp4 x x k = 0 := by
  have := (cmp4_ok k).anti x x
  lia
section
variable {w : World} {loose : List Str} {mean : ExcName → Option Value} {mg mb : Str → Option Value} {A : Around} {E : Value → Shared → Prop} {s : Shared} {L : Addr} {q : LP}
theorem st8 {lt D0 : Addr} {n : Nat} {fs ts : List Value} {xs : List Int} {ws : List (Int × Bool)} {p : List Nat} {l : Nat} (S : LSt w loose mean mg mb L q s.heap) (r : Rm A 30) (hm : q.c3 = some (.ref lt)) (hlt : (fx L s.heap).get? lt = some (PySem.W.listOf (vsOf ts p).toArray n)) (hp : p.Perm (List.range ts.length))
    (hlen : ts.length = xs.length) (hrow : ∀ j v, ts[j]? = some v → RowR xs fs j v (fx L s.heap)) (hsz : xs.length ≤ 60) (hw : (fx L s.heap).IsCell (L + 1 + 1 + 1 + 1 + 1) (some (.ref D0))) (hD : WsAt (fx L s.heap) D0 ws) (hl : p.getLast? = some l) :
    wpAny (model PR w) A (exec (lawS 8) (lawE L)) (Nx s fun h' => ∃ i0 v, LSt w loose mean mg mb L { q with m := fun z => if z = Str.ofString "last" then some v else q.m z } h' ∧ Below (fx L s.heap) (fx L h') ∧ (p.filter (keepP xs ws l)).head? = some i0 ∧ ts[i0]? = some v) E s := by
  have X := S.X
  have T := S.T
  obtain ⟨Ah, Ad, Af, Ag, Au⟩ := A
  obtain rfl : Ah = none := r.1
  obtain ⟨wv, nw, eD, lw1, lw2, hwv⟩ := hD
  have hw0 : s.heap.IsCell (L + 1 + 1 + 1 + 1 + 1) (some (.ref D0)) := cell_at hw fun o e => of_hideAll _ e
  have i3 : s.heap.IsCell (L + 1 + 1 + 1) (some (.ref lt)) := hm ▸ S.i3
  have plen : p.length = ts.length := by simpa using hp.length_eq
  have vlen : (vsOf ts p).length = ts.length := by unfold vsOf; rw [List.length_map, plen]
  have hlm : l ∈ p := List.mem_of_getLast? hl
  have hln : l < ts.length := by simpa using hp.mem_iff.mp hlm
  have hlr : (vsOf ts p).getLast? = some (ts.getD l .none) := by unfold vsOf; rw [List.getLast?_map, hl]; rfl
  have hle : ts[l]? = some (ts.getD l .none) := by rw [List.getD_eq_getElem?_getD, List.getElem?_eq_getElem hln]; rfl
  obtain ⟨al, tal, fal, nal, xl, eal, el1, _, el3, tl0, tl1, tl2, tl3, el4⟩ := hrow _ _ hle
  have tl : thAt xs l = thOf xl := thAt_of el3
  rw [eal] at hlr
  refine wpAny_Assign_Name ?_ (by kernel_rfl!)
  refine subJ ?_
  refine compE (cl := [(Str.ofString "wishes", L + 1 + 1 + 1 + 1 + 1), (Str.ofString "due", L + 1 + 1 + 1)]) ?c1 rfl ?c3 ?c4 ?_
  case c1 => kernel_rfl!
  case c3 => decide
  case c4 => intro; rfl
  refine nmC rfl rfl (lawE_due L) i3 rfl ?_
  have hl0 : s.heap.IsList lt (vsOf ts p).toArray := ⟨_, of_hideAll _ hlt, rfl, _, rfl⟩
  refine compT (k := 1) (fun i ys => ys = vsOf ts ((p.take i).filter (keepP xs ws l))) rfl hl0 (sz_small (by rw [List.size_toArray]; exact fk3 1 1 1 1 (.v 0) (.n 64) (.v 1) (.v 2) (.v 2) (.n 60) (.v 0) (.v 1) rfl [_, _, _] (Nat.le_of_eq hlen) hsz (Nat.le_of_eq vlen))) (fun _ => rfl) rfl ?_ ?_
  rotate_left
  · intro D ys h' tk' hJ D0' kb ⟨c, eDD⟩
    rw [show (vsOf ts p).toArray.size = p.length by rw [List.size_toArray, vlen, plen], List.take_length] at hJ
    have hmem : l ∈ p.filter (keepP xs ws l) := List.mem_filter.mpr ⟨hlm, by unfold keepP; simp [cmp4_self]⟩
    obtain ⟨i0, hi0⟩ : ∃ i0, (p.filter (keepP xs ws l)).head? = some i0 := by
      cases hf : p.filter (keepP xs ws l) with
      | nil => rw [hf] at hmem; cases hmem
      | cons a b => exact ⟨a, rfl⟩
    have him : i0 ∈ p := (List.mem_filter.mp (List.mem_of_head? hi0)).1
    have hin : i0 < ts.length := by simpa using hp.mem_iff.mp him
    have hie : ts[i0]? = some (ts.getD i0 .none) := by rw [List.getD_eq_getElem?_getD, List.getElem?_eq_getElem hin]; rfl
    subst hJ
    refine ⟨D, _, c, ts.getD i0 .none, rfl, eDD, by unfold vsOf; rw [List.head?_map, hi0]; rfl, fun tk => ?_⟩
    have S1 := S.grown kb
    refine wpAny_storeName_local rfl S1.ns fun h₂ n₂ s₂ => ?_
    obtain ⟨S2, k2⟩ := S1.setL n₂ s₂
    exact ⟨rfl, h₂, _, rfl, i0, _, S2, (fx_below kb).trans k2, hi0, hie⟩
  intro D C i ys v h tk m hv hJ kb nC hcs n0
  have hv' : (vsOf ts p)[i]? = some v := by simpa using hv
  have hpi : p[i]? = some (p.getD i 0) := by
    have hi : i < p.length := by
      have := (List.getElem?_eq_some_iff.mp hv').1
      exact fk3 1 1 1 1 (.a (.v 0) (.n 1)) (.v 1) (.v 2) (.v 1) (.v 3) (.v 2) (.a (.v 0) (.n 1)) (.v 3) rfl [_, _, _, _] (Nat.le_of_eq plen.symm) (Nat.le_of_eq vlen) this
    rw [List.getD_eq_getElem?_getD, List.getElem?_eq_getElem hi]; rfl
  have hvt := vsOf_get hv' hp
  obtain ⟨a, ta, fa, na, x, rfl, e1, _, e3, t0, t1, t2, t3, e4⟩ := hrow _ _ hvt
  have tx : thAt xs (p.getD i 0) = thOf x := thAt_of e3
  have C1 : s.heap.get? C = none := n0 C (by simp)
  have c10 : s.heap.get? (C + 1) = none := n0 (C + 1) (by simp [cellsK])
  obtain ⟨v01, w01⟩ := hcs (C + 1) (by simp [cellsK])
  refine wpAny_assign_Name (wpAny_storeName_cell (c := C + 1) rfl rfl rfl w01 fun h₂ n₂ s₂ => ?_)
  have k2 : ∀ b o, b ≠ C + 1 → h.get? b = some o → h₂.get? b = some o := fun b o hb e => (s₂.2 b hb).trans e
  have kb2 : Below s.heap h₂ := fun b o e => k2 b o (fun z => by rw [z, c10] at e; cases e) (kb b o e)
  have nC2 : h₂.Ns C m := nC.at' fun o e => k2 _ _ (Nat.ne_of_lt (Nat.lt_succ_self _)) e
  have done : ∀ (K : Heap → Prop) (h₃ : Heap) (tk₃ : Nat), Below h₂ h₃ → K h₃ → TurnK s 1 C h K { s with heap := h₃, toks := tk₃ } := fun K h₃ tk₃ k3 hK => by
    refine ⟨h₃, tk₃, m, rfl, fun b o hb e => k3 b o (k2 b o (fun z => hb (by simp [cellsK, z])) e), nC2.keeps k3, fun a' ha => ?_, hK⟩
    have ha' : a' = C + 1 := by
      obtain ⟨j, hj, e⟩ := List.mem_map.mp ha
      have hj2 := List.mem_range.mp hj
      rcases j with _ | j
      · exact e.symm
      · exact Nat.le_antisymm (fk1 0 1 (.v 0) (.a (.v 1) (.n 1)) (.a (.a (.v 2) (.n 1)) (.n 1)) (.n 1) rfl [_, _, _] hj2) (fk1 0 1 (.a (.v 0) (.n 1)) (.v 1) (.a (.a (.v 2) (.n 1)) (.n 1)) (.n 1) rfl [_, _, _] hj2)
    subst ha'
    exact ⟨_, cell_at n₂ fun o e => k3 _ _ e⟩
  refine wpAny_tests_one (wpAny_isTrue_Compare1 ?_)
  refine compE (cl := [(Str.ofString "thing", C + 1), (Str.ofString "due", L + 1 + 1 + 1)]) ?d1 rfl ?d3 ?d4 ?_
  case d1 => kernel_rfl!
  case d3 => decide
  case d4 => intro; rfl
  have hw2 : h₂.IsCell (L + 1 + 1 + 1 + 1 + 1) (some (.ref D0)) := cell_at hw0 fun o e => kb2 _ _ e
  refine nmC rfl rfl rfl hw2 rfl ?_
  have hlw : h₂.IsList D0 wv.toArray := ⟨_, kb2 _ _ (of_hideAll _ eD), rfl, _, rfl⟩
  refine compT (s := { s with heap := h₂, toks := _ }) (k := 0) (fun j ys => IntsAre ys (((ws.take j).filter fun w => decide (cmp4 (thOf x) (thOf xl) w.1 ≠ 0)).map (·.1))) rfl hlw (sz_small (by rw [List.size_toArray]; exact fk2 1 1 1 (.v 0) (.n 64) (.v 0) (.v 1) (.v 1) (.n 4) rfl [_, _] (Nat.le_of_eq lw1) lw2)) (fun _ => rfl) .nil ?_ ?_
  rotate_left
  · intro D2 ys2 h₃ tk₃ hJ2 D20 kb3 ⟨c2, eD2⟩
    replace kb3 : Below h₂ h₃ := kb3
    rw [show wv.toArray.size = ws.length by rw [List.size_toArray, lw1], List.take_length] at hJ2
    refine wpAny_List (spliced_nil ⟨sz_small (by simp), ?_⟩)
    dsimp only
    have up4 : Below h₃ (h₃.push { cls := .type "list", data := .seq ([] : List Value).toArray }) := fun b o e => Heap.get?_push_of_some _ e
    refine eq_intsK (ms := []) ⟨_, up4 _ _ eD2, rfl, _, rfl⟩ hJ2 ⟨_, Heap.get?_push_size _ rfl, rfl, _, rfl⟩ .nil (by have := r.units; show Au + 64 < _; have h' : Au + 100 < cLine := this; exact fk1 1 1 (.a (.a (.v 0) (.n 64)) (.n 1)) (.v 1) (.a (.a (.v 0) (.n 100)) (.n 1)) (.v 1) rfl [_, _] this) (wpAny_truthy_bool ?_)
    have hk : decide (List.map (·.1) (ws.filter fun w => decide (cmp4 (thOf x) (thOf xl) w.1 ≠ 0)) = []) = keepP xs ws l (p.getD i 0) := by
      unfold keepP
      rw [tx, tl]
      apply decide_eq_decide.mpr
      rw [List.map_eq_nil_iff, List.filter_eq_nil_iff]
      simp
    rw [hk]
    have kx : Below h₂ (h₃.push { cls := .type "list", data := .seq ([] : List Value).toArray }) := kb3.trans up4
    by_cases hkp : keepP xs ws l (p.getD i 0) = true
    · rw [hkp, if_pos rfl]
      refine nmC rfl rfl rfl (cell_at n₂ fun o e => kx _ _ e) rfl (done _ _ _ kx ?_)
      rw [keep_pos hpi hkp, vsOf_snoc hvt, hJ]
    · rw [if_neg hkp]
      refine done _ _ _ kx ?_
      rw [keep_neg hpi hkp, hJ]
  intro D' C' j ys' v' h' tk' m' hv2 hJ' kb' nC' _ n0'
  replace kb' : Below h₂ h' := kb'
  have C0' : h₂.get? C' = none := n0' C' (by simp)
  obtain ⟨l', a', t', b', rfl, el', ha', ew'⟩ := hwv _ _ (by simpa using hv2)
  have ks' : Below s.heap h' := kb2.trans kb'
  have hT' : h'.IsList l' #[.int a' t', .bool b'] := ⟨_, ks' _ _ (of_hideAll _ el'), rfl, _, rfl⟩
  refine asgW2 rfl hT' fun h₃ kb₃ => ?_
  replace kb₃ : Below h' h₃ := kb₃
  refine wpAny_storeName_local rfl (nC'.keeps kb₃) fun h₄ n₄ s₄ => wpAny_storeName_local rfl n₄ fun h₅ n₅ s₅ => ?_
  have n₅' : h₅.Ns C' fun z => if z = Str.ofString "back" then some (.bool b') else if z = Str.ofString "wish" then some (.int a' t') else m' z := n₅
  have k5 : ∀ b o, b ≠ C' → h'.get? b = some o → h₅.get? b = some o := fun b o hb e => (s₅.2 b hb).trans ((s₄.2 b hb).trans (kb₃ b o e))
  have kb5 : Below h₂ h₅ := fun b o e => k5 b o (fun z => by rw [z, C0'] at e; cases e) (kb' b o e)
  have ks5 : Below s.heap h₅ := kb2.trans kb5
  have fin : ∀ (K : Heap → Prop) (tk₂ tk₃ : Nat), K h₅ → TurnK { s with heap := h₂, toks := tk₂ } 0 C' h' K { s with heap := h₅, toks := tk₃ } := fun K tk₂ tk₃ hK =>
    ⟨h₅, tk₃, _, rfl, fun b o hb e => k5 b o (fun z => hb (z ▸ .head _)) e, n₅', fun a ha => by simp [cellsK] at ha, hK⟩
  refine wpAny_tests_one (wpAny_isTrue_Compare1 ?_)
  refine oneK (a := a) (ta := ta) (x := thOf x) (k := a') (s := { s with heap := h₅, toks := _ }) (nmC rfl rfl rfl (cell_at n₂ fun o e => kb5 _ _ e) rfl ⟨rfl, _, rfl⟩) (ks5 _ _ (of_hideAll _ e1)) ⟨t0, t1, t2, t3, ks5 _ _ (of_hideAll _ e4)⟩ ha' (fun tk Q' h => nmL rfl rfl n₅' rfl rfl (h _)) fun v1 tk1 V1 => ?_
  refine oneK (a := al) (ta := tal) (x := thOf xl) (k := a') (s := { s with heap := h₅, toks := tk1 }) ?_ (ks5 _ _ (of_hideAll _ el1)) ⟨tl0, tl1, tl2, tl3, ks5 _ _ (of_hideAll _ el4)⟩ ha' (fun tk Q' h => nmL rfl rfl n₅' rfl rfl (h _)) fun v2 tk2 V2 => ?_
  · exact subLast (nmC rfl rfl rfl (cell_at i3 fun o e => ks5 _ _ e) rfl ⟨rfl, ks5 _ _ (of_hideAll _ hlt), fun tk => ⟨rfl, _, rfl⟩⟩) hlr (by exact fk3 1 1 1 1 (.v 0) (.n 60) (.v 1) (.v 2) (.v 2) (.n 60) (.v 0) (.v 1) rfl [_, _, _] (Nat.le_of_eq hlen) hsz (Nat.le_of_eq vlen))
  refine cmpNe V1 V2 (wpAny_truthy_bool ?_)
  have snoc : ((ws.take (j + 1)).filter fun w => decide (cmp4 (thOf x) (thOf xl) w.1 ≠ 0)) = ((ws.take j).filter fun w => decide (cmp4 (thOf x) (thOf xl) w.1 ≠ 0)) ++ ([(a', b')].filter fun w => decide (cmp4 (thOf x) (thOf xl) w.1 ≠ 0)) := by rw [take_snoc ew', List.filter_append]
  by_cases hc : cmp4 (thOf x) (thOf xl) a' ≠ 0
  · rw [if_pos (by simpa using hc)]
    refine nmL rfl rfl n₅' rfl rfl (fin _ _ _ ?_)
    rw [snoc, List.filter_cons_of_pos (by simpa using hc), List.map_append]
    exact ints_snoc hJ'
  · rw [if_neg (by simpa using hc)]
    refine fin _ _ _ ?_
    rw [snoc, List.filter_cons_of_neg (by simpa using hc), List.filter_nil, List.append_nil]
    exact hJ'
end
end Mine
end
section
open PySem PySem.W PySem.Calls PyProof.Rows
set_option Elab.async false
set_option maxRecDepth 100000
set_option maxHeartbeats 8000000
set_option linter.unusedVariables false
namespace Mine
theorem strOk_app (a b : Str) : PyData.strOk (a ++ b) = (PyData.strOk a && PyData.strOk b) := by
  show (a.cps ++ b.cps).all _ = _
  rw [Array.all_append]
  rfl
theorem tbl_ok1 : ∀ i : Fin 10, ∀ e ∈ tblD i, PyData.strOk e.2 = true := by decide +kernel
theorem fmChar_ok (x : Int) (i : Nat) (hi : i < 10) : PyData.strOk (fmChar x i) = true := by
  unfold fmChar
  split
  · rename_i e he
    exact tbl_ok1 ⟨i, hi⟩ e (List.mem_of_find?_eq_some he)
  · split <;> decide +kernel
theorem fmText_ok (x : Int) : PyData.strOk (fmText x) = true := by
  unfold fmText
  rw [show List.range 10 = [0, 1, 2, 3, 4, 5, 6, 7, 8, 9] from rfl]
  simp only [List.map_cons, List.map_nil]
  rw [join10]
  simp only [strOk_app, fmChar_ok x _ (by decide : 0 < 10), fmChar_ok x _ (by decide : 1 < 10), fmChar_ok x _ (by decide : 2 < 10), fmChar_ok x _ (by decide : 3 < 10), fmChar_ok x _ (by decide : 4 < 10), fmChar_ok x _ (by decide : 5 < 10), fmChar_ok x _ (by decide : 6 < 10), fmChar_ok x _ (by decide : 7 < 10), fmChar_ok x _ (by decide : 8 < 10), fmChar_ok x _ (by decide : 9 < 10), Bool.and_self]
/-- a value as data -/
noncomputable def Rd (h : Heap) (v : Value) (d : PyData) : Prop := ∃ as, Reads h v d as
theorem rdAll {h : Heap} : ∀ {vs : List Value} {ds : List PyData}, vs.length = ds.length → (∀ (j : Nat) v d, vs[j]? = some v → ds[j]? = some d → Rd h v d) → ∃ as, ReadsAll h vs ds as
  | [], [], _, _ => ⟨_, .nil⟩
  | [], _ :: _, e, _ => by simp at e
  | _ :: _, [], e, _ => by simp at e
  | v :: vs, d :: ds, e, f => by
    obtain ⟨as, ha⟩ := f 0 v d rfl rfl
    obtain ⟨bs, hb⟩ := rdAll (vs := vs) (ds := ds) (by simpa using e) fun j v d h1 h2 => f (j + 1) v d (by simpa using h1) (by simpa using h2)
    exact ⟨_, .cons ha hb⟩
theorem rdList {h : Heap} {a : Addr} {vs : List Value} {ds : List PyData} {n : Nat} (e : h.get? a = some (PySem.W.listOf vs.toArray n)) (hl : vs.length = ds.length) (f : ∀ (j : Nat) v d, vs[j]? = some v → ds[j]? = some d → Rd h v d) : Rd h (.ref a) (.list ds) := by
  obtain ⟨as, ha⟩ := rdAll hl f
  exact ⟨_, .list e rfl rfl (by simpa using ha)⟩
theorem rdI {h : Heap} {i : Int} {t : Tok} : Rd h (.int i t) (.int i) := ⟨_, .int i t⟩
theorem rdS {h : Heap} {x : Str} {t : Tok} : Rd h (.str x t) (.str x) := ⟨_, .str x t⟩
noncomputable def thD (x : Th) : PyData := .list [.int x.k0, .int x.k1, .str x.tx, .int x.sz]
noncomputable def fileD (x : Int) (j : Nat) : PyData := .list [.int (x.fmod 65536), .int ((x.fdiv 65536).fmod 3), .int j]
noncomputable def rowD (xs : List Int) (j : Nat) : PyData := .list [thD (thAt xs j), fileD (xs.getD j 0) j]
noncomputable def cmpD (xs : List Int) (j : Nat) : PyData := .list ((List.range 4).map fun k => .int (cmp4 (thAt xs j) (thAt xs ((j + 1) % xs.length)) (k : Nat)))
theorem rd2 {h : Heap} {a : Addr} {v1 v2 : Value} {d1 d2 : PyData} {n : Nat} (e : h.get? a = some (PySem.W.listOf #[v1, v2] n)) (r1 : Rd h v1 d1) (r2 : Rd h v2 d2) : Rd h (.ref a) (.list [d1, d2]) := by
  refine rdList (vs := [v1, v2]) (n := n) e rfl fun j v d h1 h2 => ?_
  match j, h1, h2 with
  | 0, h1, h2 => cases h1; cases h2; exact r1
  | 1, h1, h2 => cases h1; cases h2; exact r2
  | j + 2, h1, h2 => simp at h1
theorem rdTh {h : Heap} {a : Addr} {x : Th} (t : ThAt h a x) : Rd h (.ref a) (thD x) := by
  obtain ⟨t0, t1, t2, t3, e⟩ := t
  refine rdList (vs := [.int x.k0 t0, .int x.k1 t1, .str x.tx t2, .int x.sz t3]) (n := 0) e rfl fun j v d h1 h2 => ?_
  match j, h1, h2 with
  | 0, h1, h2 => cases h1; cases h2; exact rdI
  | 1, h1, h2 => cases h1; cases h2; exact rdI
  | 2, h1, h2 => cases h1; cases h2; exact rdS
  | 3, h1, h2 => cases h1; cases h2; exact rdI
  | j + 4, h1, h2 => simp at h1
theorem rdFile {h : Heap} {xs : List Int} {j : Nat} {v : Value} (f : FileR xs j v h) : Rd h v (fileD (xs.getD j 0) j) := by
  obtain ⟨a, t1, t2, t3, x, rfl, ex, e⟩ := f
  rw [List.getD_eq_getElem?_getD, ex]
  refine rdList (vs := [.int (x.fmod 65536) t1, .int ((x.fdiv 65536).fmod 3) t2, .int j t3]) (n := 0) e rfl fun j' v d h1 h2 => ?_
  match j', h1, h2 with
  | 0, h1, h2 => cases h1; cases h2; exact rdI
  | 1, h1, h2 => cases h1; cases h2; exact rdI
  | 2, h1, h2 => cases h1; cases h2; exact rdI
  | j' + 3, h1, h2 => simp at h1
theorem rdRow {h : Heap} {xs : List Int} {fs : List Value} {j : Nat} {v : Value} (f : RowR xs fs j v h) (hf : ∀ j v, fs[j]? = some v → FileR xs j v h) : Rd h v (rowD xs j) := by
  obtain ⟨a, ta, fa, n, x, rfl, e1, e2, e3, t⟩ := f
  exact rd2 e1 (by rw [thAt_of e3]; exact rdTh t) (rdFile (hf _ _ e2))
theorem rdCmp {h : Heap} {xs : List Int} {j : Nat} {v : Value} (f : RowT xs j v h) : Rd h v (cmpD xs j) := by
  obtain ⟨a, ys, c, rfl, e, hl, f⟩ := f
  refine rdList e (by rw [hl]; rfl) fun k v d h1 h2 => ?_
  obtain ⟨t, rfl⟩ := f k v h1
  have hk : k < 4 := by have := (List.getElem?_eq_some_iff.mp h1).1; exact fk2 1 1 1 (.a (.v 0) (.n 1)) (.n 4) (.v 1) (.n 4) (.a (.v 0) (.n 1)) (.v 1) rfl [_, _] (Nat.le_of_eq hl) this
  rw [List.getElem?_map, List.getElem?_range hk] at h2
  cases h2
  exact rdI
theorem lay_all : ∀ {ds : List PyData}, (∀ d ∈ ds, d.canLay0 = true) → PyData.canLayAll0 ds = true
  | [], _ => rfl
  | d :: ds, f => by
    show (PyData.canLay0 d && PyData.canLayAll0 ds) = true
    rw [f d (by simp), lay_all fun d h => f d (by simp [h])]
    rfl
theorem dep_all {n : Nat} : ∀ {ds : List PyData}, (∀ d ∈ ds, d.depth ≤ n) → PyData.depthAll ds ≤ n
  | [], _ => Nat.zero_le _
  | d :: ds, f => by
    show max (PyData.depth d) (PyData.depthAll ds) ≤ n
    exact Nat.max_le.mpr ⟨f d (by simp), dep_all fun d h => f d (by simp [h])⟩
noncomputable def Ok (n : Nat) (d : PyData) : Prop := d.canLay0 = true ∧ d.depth ≤ n
theorem Ok.list {n : Nat} {ds : List PyData} (f : ∀ d ∈ ds, Ok n d) : Ok (n + 1) (.list ds) :=
  ⟨by show PyData.canLayAll0 ds = true; exact lay_all fun d h => (f d h).1, by show PyData.depthAll ds + 1 ≤ n + 1; exact Nat.succ_le_succ (dep_all fun d h => (f d h).2)⟩
theorem Ok.int {n : Nat} {i : Int} : Ok n (.int i) := ⟨rfl, Nat.zero_le _⟩
theorem Ok.str {n : Nat} {x : Str} (h : PyData.strOk x = true) : Ok n (.str x) := ⟨h, Nat.zero_le _⟩
theorem ok_th (x : Int) : Ok 1 (thD (thOf x)) := Ok.list fun d h => by
  simp only [List.mem_cons, List.not_mem_nil, or_false] at h
  rcases h with rfl | rfl | rfl | rfl
  · exact .int
  · exact .int
  · exact .str (fmText_ok _)
  · exact .int
theorem ok_row (xs : List Int) (j : Nat) : Ok 2 (rowD xs j) := Ok.list fun d h => by
  simp only [List.mem_cons, List.not_mem_nil, or_false] at h
  rcases h with rfl | rfl
  · exact ok_th _
  · exact Ok.list fun d h => by
      simp only [List.mem_cons, List.not_mem_nil, or_false] at h
      rcases h with rfl | rfl | rfl <;> exact .int
theorem ok_cmp (xs : List Int) (j : Nat) : Ok 2 (cmpD xs j) := by
  refine Ok.list fun d h => ?_
  obtain ⟨k, _, rfl⟩ := List.mem_map.mp h
  exact .int
/-- both sides of the law as data -/
noncomputable def lawD (xs : List Int) (p : List Nat) (i : Nat) : PyData := .list [.list ((List.range xs.length).map (cmpD xs)), .list (p.map (rowD xs)), rowD xs i]
theorem ok_law (xs : List Int) (p : List Nat) (i : Nat) : Ok 4 (lawD xs p i) := Ok.list fun d h => by
  simp only [List.mem_cons, List.not_mem_nil, or_false] at h
  rcases h with rfl | rfl | rfl
  · refine Ok.list fun d h => ?_
    obtain ⟨k, _, rfl⟩ := List.mem_map.mp h
    exact ok_cmp _ _
  · refine Ok.list fun d h => ?_
    obtain ⟨k, _, rfl⟩ := List.mem_map.mp h
    exact ok_row _ _
  · have := ok_row xs i
    exact ⟨this.1, Nat.le_succ_of_le this.2⟩
end Mine
end
section
open PySem PySem.W PySem.Calls PyProof.Rows
set_option Elab.async false
set_option maxRecDepth 100000
set_option maxHeartbeats 8000000
set_option linter.unusedVariables false
namespace Mine
theorem max_ltW (ws : List (Int × Bool)) (th : Nat → Th) : (fun i j => decide (0 < turnZ ws (th j) (th i))) = ltW th ws := by
  funext i j
  exact max_lt ws th i j
section
variable {w : World} {loose : List Str} {mean : ExcName → Option Value} {mg mb : Str → Option Value} {A : Around} {E : Value → Shared → Prop} {s : Shared} {L : Addr} {q : LP}
theorem keyAt_of {C mf D0 : Addr} {ws : List (Int × Bool)} {ts fs : List Value} {xs : List Int} {h : Heap} (K : KeyB L C mf h) (hw : h.IsCell (L + 1 + 1 + 1 + 1 + 1) (some (.ref D0))) (hD : WsAt h D0 ws) (hrow : ∀ j v, ts[j]? = some v → RowR xs fs j v h) : KeyAt ws (thAt xs) ts C mf h := by
  refine ⟨K.k, ?_, K.h2, fun i v hv => ?_⟩
  · obtain ⟨q0, q1, p0, p1, p2, p3, p4, p5, p6, p7, p8, pm, c', ct, e1, e2, e3⟩ := K.l
    obtain ⟨o, c1, c2⟩ := hw
    exact ⟨_, _, q0, q1, p0, p1, p2, p3, p4, p5, p6, p7, p8, _, pm, c', ct, D0, e1, e2, e3, ⟨o, c1, c2⟩, hD⟩
  · obtain ⟨a, ta, fa, n, x, rfl, e1, _, e3, t⟩ := hrow i v hv
    exact ⟨a, ta, fa, n, rfl, e1, by rw [thAt_of e3]; exact t⟩
theorem wsAt_up {h h' : Heap} {D : Addr} {ws : List (Int × Bool)} (x : WsAt h D ws) (k : Below h h') : WsAt h' D ws := by
  obtain ⟨vs, n, e, l1, l2, f⟩ := x
  refine ⟨vs, n, k _ _ e, l1, l2, fun i v hv => ?_⟩
  obtain ⟨l, a, t, b, rfl, e', r, q⟩ := f i v hv
  exact ⟨l, a, t, b, rfl, k _ _ e', r, q⟩
/-- the law's answer -/
theorem st9 {lt tu sg du C mf D0 : Addr} {nd l i0 : Nat} {vl : Value} {fs ts us gs ds : List Value} {xs : List Int} {ws : List (Int × Bool)} {p : List Nat} (S : LSt w loose mean mg mb L q s.heap) (r : Rm A 40)
    (mt : q.m (Str.ofString "told") = some (.ref lt)) (hT : RowsAt (RowR xs fs) xs.length lt ts (fx L s.heap)) (mu : q.m (Str.ofString "turns") = some (.ref tu)) (hU : RowsAt (RowT xs) xs.length tu us (fx L s.heap))
    (ms : q.m (Str.ofString "signs") = some (.ref sg)) (hG : RowsAt (RowT xs) xs.length sg gs (fx L s.heap)) (md : q.c3 = some (.ref du)) (hdu : (fx L s.heap).get? du = some (PySem.W.listOf (vsOf ds p).toArray nd)) (hdl : ds.length = xs.length)
    (hrow : ∀ j v, ds[j]? = some v → RowR xs fs j v (fx L s.heap)) (hp : p.Perm (List.range xs.length)) (ho : p.Pairwise (TT (ltW (thAt xs) ws))) (ml : q.m (Str.ofString "last") = some vl) (hl : p.getLast? = some l) (hi0 : (p.filter (keepP xs ws l)).head? = some i0) (hvl : ds[i0]? = some vl)
    (mr : q.m (Str.ofString "row") = some (.ref C)) (K : KeyB L C mf (fx L s.heap)) (hw : (fx L s.heap).IsCell (L + 1 + 1 + 1 + 1 + 1) (some (.ref D0))) (hD : WsAt (fx L s.heap) D0 ws) (hFs : ∀ j v, fs[j]? = some v → FileR xs j v (fx L s.heap)) (h5 : 2 ≤ xs.length) (hsz : xs.length ≤ 60) :
    wpAny (model PR w) A (exec (lawS 9) (lawE L)) (fun fl s' => fl = .ret (.bool true) ∧ ∃ h' tk', s' = { s with heap := h', toks := tk' } ∧ Ext1 s.heap h' ∧ Tab h') E s := by
  have X := S.X
  have T := S.T
  obtain ⟨Ah, Ad, Af, Ag, Au⟩ := A
  obtain rfl : Ah = none := r.1
  have kb := hide_below s.heap (vol L)
  obtain ⟨⟨ct, hlt⟩, hlen, hrowT⟩ := hT
  have K0 : KeyAt ws (thAt xs) ts C mf s.heap := by
    have K1 : KeyB L C mf s.heap := K.mono kb
    exact keyAt_of K1 (cell_at hw fun o e => kb _ _ e) (wsAt_up hD kb) fun j v e => rowR_mono xs fs _ _ _ _ (hrowT j v e) kb
  refine wpAny_Return_some (wpAny_Compare1 ?_)
  refine wpAny_List (spliced_cons ?_)
  refine nmL rfl rfl S.ns mu rfl ?_
  refine spliced_cons ?_
  refine wpAny_Call_Name_kw (ldB X T kb rfl rfl rfl rfl (v := .builtin "sorted") (by kernel_rfl!) (by kernel_rfl!) (by decide) rfl ?_)
  refine callWith_kw ?_
  refine spliced_cons (nmL rfl rfl S.ns mt rfl (spliced_nil ?_))
  refine kws_cons (nmL rfl rfl S.ns mr rfl (kws_nil ?_))
  show wpAny _ _ (call (.builtin "sorted") [.ref lt] [(Str.ofString "key", .ref C)]) _ _ _
  refine sorted_W (s₀ := s) (b := false) (key_sortAsk S.wd K0 (Rm.in1 (Rm.in1 (r.le (by decide)))) (by exact fk2 1 1 1 (.n 2) (.v 0) (.n 2) (.v 1) (.v 1) (.v 0) rfl [_, _] h5 (Nat.le_of_eq hlen.symm))) (sort_pre ws (thAt xs)) (by exact fk2 1 1 1 (.n 2) (.v 0) (.n 2) (.v 1) (.v 1) (.v 0) rfl [_, _] h5 (Nat.le_of_eq hlen.symm)) (by exact fk2 1 1 1 (.a (.v 0) (.n 1)) (.n 64) (.v 1) (.n 60) (.v 0) (.v 1) rfl [_, _] hsz (Nat.le_of_eq hlen)) ⟨_, kb _ _ hlt, rfl, _, rfl⟩ ⟨S.tab, .inl trivial⟩ ?a1 ?a2 ?a3 ?_
  case a1 => ksk_a1
  case a2 => intro x'; ksk_a2
  case a3 => intro x'; ksk_a3
  rintro D s' qq cc ⟨h₁, tk₁, rfl⟩ x1 tz O D00 eD
  replace x1 : Ext1 s.heap h₁ := x1
  replace D00 : s.heap.get? D = none := D00
  replace eD : h₁.get? D = some _ := eD
  have k1 : Below (fx L s.heap) h₁ := fun b o e => x1 b o (fun z => (hide_get.mp e).2 (by simp [z])) (kb _ _ e)
  have n1 : h₁.Ns L q.m := S.ns.at' fun o e => x1 _ _ (fun z => by
    have := S.lt
    rw [z] at this
    exact absurd this (by decide)) e
  have c3n : L + 1 + 1 + 1 ≠ 100 := ((S.cne 3).1).symm
  refine spliced_cons ?_
  refine wpAny_Call_Name_kw (ldB X T k1 rfl rfl rfl rfl (v := .builtin "max") (by kernel_rfl!) (by kernel_rfl!) (by decide) rfl ?_)
  refine callWith_kw ?_
  refine spliced_cons (nmL rfl rfl n1 mt rfl (spliced_nil ?_))
  refine kws_cons (nmL rfl rfl n1 mr rfl (kws_nil ?_))
  show wpAny _ _ (call (.builtin "max") [.ref lt] [(Str.ofString "key", .ref C)]) _ _ _
  have W1 := S.wd.next x1 tz.1
  have M1 := key_maxAsk (s₀ := { s with heap := h₁, toks := tk₁ }) (A := Around.in1 ⟨none, Ad, Af, Ag, Au⟩) W1 (K0.next x1 S.tab) (Rm.in1 (r.le (by decide)))
  rw [max_ltW] at M1
  refine max_W M1 (sort_pre ws (thAt xs)) rfl (by exact fk2 1 1 1 (.a (.n 0) (.n 1)) (.v 0) (.n 2) (.v 1) (.v 1) (.v 0) rfl [_, _] h5 (Nat.le_of_eq hlen.symm)) ⟨_, k1 _ _ hlt, rfl, _, rfl⟩ tz.1 ?_
  rintro i v s' hiv htop ⟨h₂, tk₂, rfl⟩ x2 t2
  replace x2 : Ext1 h₁ h₂ := x2
  have x02 : Ext1 s.heap h₂ := x1.trans x2
  have k2 : Below (fx L s.heap) h₂ := fun b o e => x02 b o (fun z => (hide_get.mp e).2 (by simp [z])) (kb _ _ e)
  have D100 : D ≠ 100 := fun z => by rw [z, S.t100] at D00; cases D00
  have eD2 := x2 _ _ D100 eD
  have n2 : h₂.Ns L q.m := n1.at' fun o e => x2 _ _ (fun z => by
    have := S.lt
    rw [z] at this
    exact absurd this (by decide)) e
  have i32 : h₂.IsCell (L + 1 + 1 + 1) (some (.ref du)) := cell_at (md ▸ S.i3) fun o e => x02 _ _ c3n e
  refine spliced_nil ⟨sz_small (by simp), ?_⟩
  dsimp only
  generalize hH3 : h₂.push { cls := .type "list", data := .seq [Value.ref tu, Value.ref D, v].toArray } = h₃
  have k3 : Below h₂ h₃ := by rw [← hH3]; exact fun b o e => Heap.get?_push_of_some _ e
  have eL3 : h₃.get? h₂.objs.size = some (PySem.W.listOf [Value.ref tu, Value.ref D, v].toArray 0) := by rw [← hH3]; exact Heap.get?_push_size _ rfl
  refine wpAny_List (spliced_cons ?_)
  refine nmL rfl rfl (n2.keeps k3) ms rfl ?_
  refine spliced_cons (nmC rfl rfl (lawE_due L) (cell_at i32 fun o e => k3 _ _ e) rfl ?_)
  refine spliced_cons (nmL rfl rfl (n2.keeps k3) ml rfl (spliced_nil ⟨sz_small (by simp), ?_⟩))
  dsimp only
  generalize hH4 : h₃.push { cls := .type "list", data := .seq [Value.ref sg, Value.ref du, vl].toArray } = h₄
  have k4 : Below h₃ h₄ := by rw [← hH4]; exact fun b o e => Heap.get?_push_of_some _ e
  have eL4 : h₄.get? h₃.objs.size = some (PySem.W.listOf [Value.ref sg, Value.ref du, vl].toArray 0) := by rw [← hH4]; exact Heap.get?_push_size _ rfl
  have kf : Below (fx L s.heap) h₄ := (k2.trans k3).trans k4
  have x04 : Ext1 s.heap h₄ := fun b o hb e => k4 _ _ (k3 _ _ (x02 b o hb e))
  rw [hlen] at O
  have epq : p = qq := radix_end hp ho O
  have hn : i < xs.length := by
    have := (List.getElem?_eq_some_iff.mp hiv).1
    exact fk2 1 1 1 (.a (.v 0) (.n 1)) (.v 1) (.v 2) (.v 1) (.a (.v 0) (.n 1)) (.v 2) rfl [_, _, _] (Nat.le_of_eq hlen) this
  rw [hlen] at htop
  have hlm := last_max hp ho hl hn htop
  have ei : i0 = i := by
    have e : (p.filter (keepP xs ws l)).head? = some i := hlm
    rw [hi0] at e
    exact Option.some.inj e
  have rowT : ∀ j v, ts[j]? = some v → Rd h₄ v (rowD xs j) := fun j v e => rdRow (rowR_mono xs fs _ _ _ _ (hrowT j v e) kf) fun j v e => fileR_mono xs _ _ _ _ (hFs j v e) kf
  have rowD' : ∀ j v, ds[j]? = some v → Rd h₄ v (rowD xs j) := fun j v e => rdRow (rowR_mono xs fs _ _ _ _ (hrow j v e) kf) fun j v e => fileR_mono xs _ _ _ _ (hFs j v e) kf
  have pm : ∀ {vs : List Value}, vs.length = xs.length → (∀ j v, vs[j]? = some v → Rd h₄ v (rowD xs j)) → ∀ (j : Nat) v d, (p.map fun i => vs.getD i .none)[j]? = some v → (p.map (rowD xs))[j]? = some d → Rd h₄ v d := by
    intro vs hv hr j v d h1 h2
    rw [List.getElem?_map] at h1 h2
    cases e : p[j]? with
    | none => rw [e] at h1; cases h1
    | some i =>
      rw [e] at h1 h2
      have hi : i < vs.length := by rw [hv]; simpa using hp.mem_iff.mp (List.mem_of_getElem? e)
      cases h1
      cases h2
      refine hr i _ ?_
      show vs[i]? = some (vs.getD i Value.none)
      rw [List.getD_eq_getElem?_getD, List.getElem?_eq_getElem hi]
      rfl
  have cmpR : ∀ {a : Addr} {vs : List Value}, RowsAt (RowT xs) xs.length a vs (fx L s.heap) → Rd h₄ (.ref a) (.list ((List.range xs.length).map (cmpD xs))) := by
    rintro a vs ⟨⟨c, e⟩, hl, f⟩
    refine rdList (kf _ _ e) (by simp [hl]) fun j v d h1 h2 => ?_
    have hj : j < xs.length := by have := (List.getElem?_eq_some_iff.mp h1).1; exact fk2 1 1 1 (.a (.v 0) (.n 1)) (.v 1) (.v 2) (.v 1) (.a (.v 0) (.n 1)) (.v 2) rfl [_, _, _] (Nat.le_of_eq hl) this
    rw [List.getElem?_map, List.getElem?_range hj] at h2
    cases h2
    exact rdCmp (rowT_mono xs _ _ _ _ (f j v h1) kf)
  have R1 : Rd h₄ (.ref h₂.objs.size) (lawD xs p i) := by
    refine rdList (vs := [.ref tu, .ref D, v]) (k4 _ _ eL3) rfl fun j v' d h1 h2 => ?_
    match j, h1, h2 with
    | 0, h1, h2 => cases h1; cases h2; exact cmpR hU
    | 1, h1, h2 =>
      cases h1; cases h2
      subst epq
      exact rdList (k4 _ _ (k3 _ _ eD2)) (by simp) (pm hlen rowT)
    | 2, h1, h2 => cases h1; cases h2; exact rowT i v hiv
    | j + 3, h1, h2 => simp at h1
  have R2 : Rd h₄ (.ref h₃.objs.size) (lawD xs p i) := by
    refine rdList (vs := [.ref sg, .ref du, vl]) eL4 rfl fun j v' d h1 h2 => ?_
    match j, h1, h2 with
    | 0, h1, h2 => cases h1; cases h2; exact cmpR hG
    | 1, h1, h2 =>
      cases h1; cases h2
      exact rdList (kf _ _ hdu) (by simp [vsOf]) (pm hdl rowD')
    | 2, h1, h2 => cases h1; cases h2; rw [← ei]; exact rowD' i0 vl hvl
    | j + 3, h1, h2 => simp at h1
  obtain ⟨as, R1⟩ := R1
  obtain ⟨bs, R2⟩ := R2
  have hok := ok_law xs p i
  have hsh : SeqAt.shaped (lawD xs p i) = true := by
    unfold SeqAt.shaped
    rw [hok.1, Bool.true_and]
    exact decide_eq_true (Nat.le_trans hok.2 (by decide))
  refine eq_dataH (s := { s with heap := h₄, toks := tk₂ }) R1 R2 hsh hsh (by have := r.units; show Au + 64 < _; have h' : Au + 100 < cLine := this; exact fk1 1 1 (.a (.a (.v 0) (.n 64)) (.n 1)) (.v 1) (.a (.a (.v 0) (.n 100)) (.n 1)) (.v 1) rfl [_, _] this) ?_
  rw [SeqAt.eqv_refl _ hok.1]
  exact ⟨rfl, h₄, _, rfl, x04, t2.imp fun ps h => ⟨k4 _ _ (k3 _ _ h.1), h.2.ext (Ext1.of fun b o e => k4 _ _ (k3 _ _ e))⟩⟩
end
end Mine
end
section
open PySem PySem.W PySem.Calls PyProof.Rows
set_option Elab.async false
set_option maxRecDepth 100000
set_option maxHeartbeats 8000000
set_option linter.unusedVariables false
namespace Mine
noncomputable def InV (v : Value) : Prop := ∃ a t, v = .int a t ∧ InR a
noncomputable def WsJ (i : Nat) (m : Str → Option Value) (h : Heap) : Prop := ∃ ll lw lv wv cl cw, m (Str.ofString "left") = some (.ref ll) ∧ m (Str.ofString "wishes") = some (.ref lw) ∧ h.get? ll = some (PySem.W.listOf (List.toArray lv) cl) ∧ h.get? lw = some (PySem.W.listOf (List.toArray wv) cw) ∧ lv.length = 4 - i ∧ wv.length = i ∧ (∀ v ∈ lv, InV v) ∧ ∀ v ∈ wv, InV v
theorem wsJ_mono (i : Nat) (m : Str → Option Value) (h h' : Heap) : WsJ i m h → Below h h' → WsJ i m h' := by
  rintro ⟨ll, lw, lv, wv, cl, cw, a, b, c, d, e⟩ k
  exact ⟨ll, lw, lv, wv, cl, cw, a, b, k _ _ c, k _ _ d, e⟩
theorem pickT {vs : List Value} {p : Int} (h0 : 0 ≤ p) (h : p ≤ vs.length) : slicePick vs.toArray none (some p) none = (vs.take p.toNat).toArray := by
  rw [kms_pick_eq]
  have e1 : kms_hi (some p) vs.length = p.toNat := by
    show (if p < 0 then _ else min p.toNat vs.length) = _
    rw [if_neg (by lia)]; lia
  show (List.take (kms_hi (some p) vs.length - 0) (vs.drop 0)).toArray = _
  rw [e1]; rfl
theorem pickD {vs : List Value} {p : Int} (h0 : 0 ≤ p) (h : p ≤ vs.length) : slicePick vs.toArray (some p) none none = (vs.drop p.toNat).toArray := by
  rw [kms_pick_eq]
  have e1 : kms_lo (some p) vs.length = p.toNat := by
    show (if p < 0 then _ else min p.toNat vs.length) = _
    rw [if_neg (by lia)]; lia
  show (List.take (vs.length - kms_lo (some p) vs.length) (vs.drop (kms_lo (some p) vs.length))).toArray = _
  rw [e1, List.take_of_length_le (by rw [List.length_drop]; exact fk0 1 (.v 0) (.v 0) rfl [_])]
theorem fmodB (x : Int) {b : Int} (h : 0 < b) : 0 ≤ x.fmod b ∧ x.fmod b < b := ⟨Int.fmod_nonneg_of_pos x h, Int.fmod_lt_of_pos x h⟩
noncomputable def WsR (g : Heap) (j : Nat) (v : Value) (h : Heap) : Prop := ∃ l a t b, v = .ref l ∧ g.get? l = none ∧ h.get? l = some (PySem.W.listOf #[.int a t, .bool b] 0) ∧ InR a
theorem pw2 {a : Int} (h : InR a) : (2 : Int) ^ a.toNat ≠ 0 ∧ ((2 : Int) ^ a.toNat).natAbs.log2 / 30 + 1 ≤ 300 := by
  rcases inr4 h with rfl | rfl | rfl | rfl <;> exact ⟨by decide, by decide⟩
theorem wsR_list {g h : Heap} : ∀ {vs : List Value}, (∀ (j : Nat) v, vs[j]? = some v → WsR g j v h) → ∃ ws : List (Int × Bool), vs.length = ws.length ∧ ∀ (i : Nat) v, vs[i]? = some v → ∃ l a t b, v = .ref l ∧ g.get? l = none ∧ h.get? l = some (PySem.W.listOf #[.int a t, .bool b] 0) ∧ InR a ∧ ws[i]? = some (a, b)
  | [], _ => ⟨[], rfl, fun i v e => by simp at e⟩
  | v :: vs, f => by
    obtain ⟨ws, h1, h2⟩ := wsR_list (vs := vs) fun j v e => f (j + 1) v (by simpa using e)
    obtain ⟨l, a, t, b, e1, e2, e3, e4⟩ := f 0 v rfl
    refine ⟨(a, b) :: ws, by simp [h1], fun i v' e => ?_⟩
    match i, e with
    | 0, e => cases e; exact ⟨l, a, t, b, e1, e2, e3, e4, rfl⟩
    | i + 1, e => simpa using h2 i v' (by simpa using e)
section
variable {w : World} {loose : List Str} {mean : ExcName → Option Value} {mg mb : Str → Option Value} {A : Around} {s : Shared} {Q E : Value → Shared → Prop}
theorem c_wishes {x : Int} {tx : Tok} (W : Wd w loose mean mg mb s.heap) (r : Rm A 6)
    (hQ : ∀ D (vs : List Value) (ws : List (Int × Bool)) n s', St0 s s' → s.heap.get? D = none → s'.heap.get? D = some (PySem.W.listOf vs.toArray n) → vs.length = ws.length → ws.length ≤ 4 →
      (∀ (i : Nat) v, vs[i]? = some v → ∃ l a t b, v = .ref l ∧ s.heap.get? l = none ∧ s'.heap.get? l = some (PySem.W.listOf #[.int a t, .bool b] 0) ∧ InR a ∧ ws[i]? = some (a, b)) → Q (.ref D) s') : wpAny (model PR w) A (call (.ref 122) [.int x tx]) Q E s := by
  have X := W.X
  have T := W.T
  obtain ⟨Ah, Ad, Af, Ag, Au⟩ := A
  obtain rfl : Ah = none := r.1
  refine enterC W r (X _ _ (by k_is)) rfl (codeRec_of X (by k_is)) (BindsTo.of_eq rfl) rfl (by decide) ?_
  intro ps L h₁ tk cells hL V h100 hL1 r' x₁ F N C
  obtain ⟨o₁, rfl, hc⟩ := CellsAre.one C
  clear C
  have hc' : o₁.data = .cell (some (.int x tx)) := hc
  have kb1 : Below s.heap h₁ := fun b o e => by
    by_cases hb : b = 100
    · rw [hb, h100] at e; cases e; rw [hb]; exact (N (100, tabObj ps) (by simp)).1
    · exact x₁ b o hb e
  have hcell : h₁.IsCell (L + 1) (some (.int x tx)) := ⟨o₁, (N (L + 1, o₁) (.head _)).1, hc'⟩
  have L0 : s.heap.get? L = none := Heap.get?_none_of_le (Nat.le_of_eq hL.symm)
  obtain ⟨mL, hns⟩ : ∃ m, h₁.Ns L m := ⟨_, F.ns⟩
  clear hc N F V x₁ r'
  refine wpAny_execs_cons ?_
  refine Assign_Tuple_swapped (names := [Str.ofString "left", Str.ofString "wishes"]) ?_ rfl (by kernel_rfl!)
  refine wpAny_Tuple (spliced_cons ?_)
  refine wpAny_List (spliced_cons (conI (p := ⟨104, 21, 104, 22⟩) (k := 0) fun u0 k0 => ?_))
  refine spliced_cons (conI (p := ⟨104, 24, 104, 25⟩) (k := 0) fun u1 k1 => ?_)
  refine spliced_cons (conI (p := ⟨104, 27, 104, 28⟩) (k := 0) fun u2 k2 => ?_)
  refine spliced_cons (conI (p := ⟨104, 30, 104, 31⟩) (k := 0) fun u3 k3 => ?_)
  refine spliced_nil ⟨sz_small (by simp), ?_⟩
  refine spliced_cons (wpAny_List (spliced_nil ⟨sz_small (by simp), ?_⟩))
  refine spliced_nil ⟨sz_small (by simp), ?_⟩
  dsimp only
  generalize hHa : h₁.push { cls := .type "list", data := .seq [Value.int 0 u0, Value.int 1 u1, Value.int 2 u2, Value.int 3 u3].toArray } = ha
  have upa : Below h₁ ha := by rw [← hHa]; exact fun b o e => Heap.get?_push_of_some _ e
  have ea : ha.get? h₁.objs.size = some (PySem.W.listOf [Value.int 0 u0, Value.int 1 u1, Value.int 2 u2, Value.int 3 u3].toArray 0) := by rw [← hHa]; exact Heap.get?_push_size _ rfl
  generalize hHb : ha.push { cls := .type "list", data := .seq ([] : List Value).toArray } = hb
  have upb : Below ha hb := by rw [← hHb]; exact fun b o e => Heap.get?_push_of_some _ e
  have eb : hb.get? ha.objs.size = some (PySem.W.listOf ([] : List Value).toArray 0) := by rw [← hHb]; exact Heap.get?_push_size _ rfl
  have l1L : h₁.objs.size ≠ L := fun z => by have := hns.lt; rw [z] at this; exact absurd this (Nat.lt_irrefl _)
  have l2L : ha.objs.size ≠ L := fun z => by have := (hns.keeps upa).lt; rw [z] at this; exact absurd this (Nat.lt_irrefl _)
  generalize h₁.objs.size = la at *
  generalize ha.objs.size = lb at *
  generalize hHc : hb.push { cls := .type "tuple", data := .seq [Value.ref la, Value.ref lb].toArray } = hc0
  have upc : Below hb hc0 := by rw [← hHc]; exact fun b o e => Heap.get?_push_of_some _ e
  have ec : hc0.IsTuple hb.objs.size #[.ref la, .ref lb] := by rw [← hHc]; exact ⟨_, Heap.get?_push_size _ rfl, rfl, _, rfl⟩
  refine unpackItems_tuple (items := #[.ref la, .ref lb]) rfl ec fun h2 e2 => ?_
  have up2 : Below hc0 h2 := fun b o e => e2 b o (Nat.ne_of_lt (Heap.lt_size e)) e
  have up12 : Below h₁ h2 := ((upa.trans upb).trans upc).trans up2
  refine wpAny_assignInOrder_more (bindName_ ?_)
  refine wpAny_storeName_local rfl (hns.keeps up12) fun h3 n3 s3 => ?_
  refine wpAny_assignInOrder_more (bindName_ ?_)
  refine wpAny_storeName_local rfl n3 fun h4 n4 s4 => wpAny_assignInOrder_none ?_
  have kp4 : KpL L h₁ h4 := ((KpL.of up12).trans (.same s3)).trans (.same s4)
  have n4' : h4.Ns L fun z => if z = Str.ofString "left" then some (.ref la) else if z = Str.ofString "wishes" then some (.ref lb) else mL z := n4
  have J0 : WsJ 0 (fun z => if z = Str.ofString "left" then some (.ref la) else if z = Str.ofString "wishes" then some (.ref lb) else mL z) (hideAll h4 [L]) := ⟨la, lb, _, _, 0, 0, rfl, rfl, hide_get.mpr ⟨((KpL.same s3).trans (.same s4)) _ _ l1L (up2 _ _ (upc _ _ (upb _ _ ea))), by simp [l1L]⟩, hide_get.mpr ⟨((KpL.same s3).trans (.same s4)) _ _ l2L (up2 _ _ (upc _ _ eb)), by simp [l2L]⟩, rfl, rfl, fun v hv => by
    simp only [List.mem_cons, List.not_mem_nil, or_false] at hv
    rcases hv with rfl | rfl | rfl | rfl
    · exact ⟨_, _, rfl, by decide, by decide⟩
    · exact ⟨_, _, rfl, by decide, by decide⟩
    · exact ⟨_, _, rfl, by decide, by decide⟩
    · exact ⟨_, _, rfl, by decide, by decide⟩, fun v hv => by cases hv⟩
  have c4 : h4.IsCell (L + 1) (some (.int x tx)) := cell_at hcell fun o e => kp4 _ _ (Nat.succ_ne_self L) e
  dsimp only
  refine wpAny_execs_cons (wpAny_For ?_)
  refine wpAny_List (spliced_cons (wpAny_BinOp ?_))
  refine nmC rfl rfl rfl c4 rfl (conI fun _ _ => modI (by decide) fun t0 _ => ?_)
  refine spliced_cons (wpAny_BinOp (wpAny_BinOp ?_))
  refine nmC rfl rfl rfl c4 rfl (conI fun _ _ => divI (by decide) (by decide) fun _ _ => conI fun _ _ => modI (by decide) fun t1 _ => ?_)
  refine spliced_cons (wpAny_BinOp (wpAny_BinOp ?_))
  refine nmC rfl rfl rfl c4 rfl (conI fun _ _ => divI (by decide) (by decide) fun _ _ => conI fun _ _ => modI (by decide) fun t2 _ => ?_)
  refine spliced_cons (conI (p := ⟨105, 62, 105, 63⟩) (k := 0) fun t3 _ => spliced_nil ⟨sz_small (by simp), ?_⟩)
  dsimp only
  generalize hHd : h4.push { cls := .type "list", data := .seq [Value.int (x.fmod 4) t0, Value.int ((x.fdiv 4).fmod 3) t1, Value.int ((x.fdiv 12).fmod 2) t2, Value.int 0 t3].toArray } = h5
  have up5 : Below h4 h5 := by rw [← hHd]; exact fun b o e => Heap.get?_push_of_some _ e
  have e5 : h5.get? h4.objs.size = some (PySem.W.listOf [Value.int (x.fmod 4) t0, Value.int ((x.fdiv 4).fmod 3) t1, Value.int ((x.fdiv 12).fmod 2) t2, Value.int 0 t3].toArray 0) := by rw [← hHd]; exact Heap.get?_push_size _ rfl
  have hits : ∀ (i : Nat) v, ([Value.int (x.fmod 4) t0, Value.int ((x.fdiv 4).fmod 3) t1, Value.int ((x.fdiv 12).fmod 2) t2, Value.int 0 t3].toArray : Array Value)[i]? = some v → ∃ p t, v = .int p t ∧ 0 ≤ p ∧ p + i < 4 := by
    intro i v h
    have b0 := fmodB x (show (0 : Int) < 4 by decide)
    have b1 := fmodB (x.fdiv 4) (show (0 : Int) < 3 by decide)
    have b2 := fmodB (x.fdiv 12) (show (0 : Int) < 2 by decide)
    match i, h with
    | 0, h => cases h; exact ⟨_, _, rfl, b0.1, by lia⟩
    | 1, h => cases h; exact ⟨_, _, rfl, b1.1, by lia⟩
    | 2, h => cases h; exact ⟨_, _, rfl, b2.1, by lia⟩
    | 3, h => cases h; exact ⟨_, _, rfl, by decide, by decide⟩
    | i + 4, h => simp at h
  have n5 := n4'.keeps up5
  have l5L : h4.objs.size ≠ L := fun z => by have := n4'.lt; rw [z] at this; exact absurd this (Nat.lt_irrefl _)
  refine forN (s := { s with heap := h5, toks := _ }) (L := L) rfl ⟨_, e5, rfl, _, rfl⟩ l5L n5 WsJ wsJ_mono (wsJ_mono _ _ _ _ J0 (Kp.hide (Kp.all up5))) ?_ ?_
  · rintro I i v m h tk hv hn kp ⟨ll, lw, lv, wv, cl, cw, ml, mw, el, ew, ll1, lw1, il, iw⟩ hI
    replace kp : KpL L h5 h := kp
    obtain ⟨p, tp, rfl, p0, p4⟩ := hits i v hv
    obtain ⟨el0, nl⟩ := hide_get.mp el
    obtain ⟨ew0, nw⟩ := hide_get.mp ew
    have hi4 : i < 4 := by lia
    refine wpAny_assign_Name (wpAny_storeName_local rfl hn fun h6 n6 s6 => ?_)
    have n6' : h6.Ns L fun z => if z = Str.ofString "place" then some (.int p tp) else m z := n6
    have k6 : KpL L h h6 := .same s6
    have el6 := k6 _ _ (fun z => nl (by simp [z])) el0
    have ew6 := k6 _ _ (fun z => nw (by simp [z])) ew0
    have lI : ∃ o, h6.get? I = some o := by
      obtain ⟨o, e⟩ := hI
      by_cases z : I = L
      · obtain ⟨o', _, _, e', _⟩ := n6'; exact ⟨o', z ▸ e'⟩
      · exact ⟨o, k6 _ _ z e⟩
    have mp : ∀ {g : Heap}, Below h6 g → g.Ns L fun z => if z = Str.ofString "place" then some (.int p tp) else m z := fun k => n6'.keeps k
    have ml' : (fun z => if z = Str.ofString "place" then some (Value.int p tp) else m z) (Str.ofString "left") = some (.ref ll) := ml
    have mw' : (fun z => if z = Str.ofString "place" then some (Value.int p tp) else m z) (Str.ofString "wishes") = some (.ref lw) := mw
    refine wpAny_execs_cons ?_
    refine Assign_Tuple_swapped (names := [Str.ofString "wishes", Str.ofString "left"]) ?_ rfl (by kernel_rfl!)
    have hlt : p.toNat < lv.length := by lia
    obtain ⟨vp, hvp, ivp⟩ : ∃ vp, lv[p.toNat]? = some vp ∧ InV vp := ⟨lv[p.toNat], List.getElem?_eq_getElem hlt, il _ (List.getElem_mem hlt)⟩
    refine wpAny_Tuple (spliced_cons (wpAny_BinOp ?_))
    refine nmL rfl rfl n6' mw' rfl ?_
    refine wpAny_List (spliced_cons ?_)
    refine subI (l := ll) (k := p) (v := vp) (n := cl) (items := lv.toArray) (nmL rfl rfl n6' ml' rfl (nmL rfl rfl n6' rfl rfl ⟨tp, rfl, rfl, el6, ?_⟩)) p0 (by lia) (by simpa using hvp) (fun u => rfl)
    refine spliced_nil ⟨sz_small (by simp), ?_⟩
    dsimp only
    generalize hHe : h6.push { cls := .type "list", data := .seq [vp].toArray } = h7
    have up7 : Below h6 h7 := by rw [← hHe]; exact fun b o e => Heap.get?_push_of_some _ e
    have e7 : h7.get? h6.objs.size = some (PySem.W.listOf [vp].toArray 0) := by rw [← hHe]; exact Heap.get?_push_size _ rfl
    refine addLL (s := { s with heap := h7, toks := _ }) (up7 _ _ ew6) e7 (by rw [lw1]; simp; exact fk1 1 1 (.v 0) (.n 63) (.a (.v 0) (.n 1)) (.n 4) rfl [_] hi4) fun D8 h8 kb8 m8 e8 => ?_
    replace kb8 : Below h7 h8 := kb8
    replace m8 : h7.get? D8 = none := m8
    have u8 := up7.trans kb8
    refine spliced_cons (wpAny_BinOp ?_)
    refine sliM (s := s) (h := h8) (tk := _) (fun Q' hq => nmL rfl rfl (mp u8) ml' rfl hq) ⟨_, u8 _ _ el6, rfl, _, rfl⟩ (fun tk Q' hq => wpAny_evalPart_none (hq _ _ .none)) (fun tk Q' hq => wpAny_evalPart_some (nmL rfl rfl (mp u8) rfl rfl (hq _ _ (.int p tp)))) (pickT p0 (by lia)) (by exact fk2 1 1 1 (.v 0) (.n 64) (.v 0) (.v 1) (.v 1) (.n 4) rfl [_, _] (Nat.le_of_eq ll1) (sb1 _ _)) fun D9 h9 tk9 kb9 m9 e9 => ?_
    have u9 := u8.trans kb9
    refine sliM (s := s) (h := h9) (tk := _) (fun Q' hq => nmL rfl rfl (mp u9) ml' rfl hq) ⟨_, u9 _ _ el6, rfl, _, rfl⟩ (fun tk Q' hq => wpAny_evalPart_some (wpAny_BinOp (nmL rfl rfl (mp u9) rfl rfl (conI fun _ _ => PyProof.Rows.add_int (hq _ _ (.int (p + 1) _)))))) (fun tk Q' hq => wpAny_evalPart_none (hq _ _ .none)) (pickD (by lia) (by lia)) (by exact fk2 1 1 1 (.v 0) (.n 64) (.v 0) (.v 1) (.v 1) (.n 4) rfl [_, _] (Nat.le_of_eq ll1) (sb1 _ _)) fun D10 h10 tk10 kb10 m10 e10 => ?_
    have u10 := u9.trans kb10
    refine addLL (s := { s with heap := h10, toks := _ }) (kb10 _ _ e9) e10 (by rw [List.length_take, List.length_drop]; lia) fun D11 h11 kb11 m11 e11 => ?_
    replace kb11 : Below h10 h11 := kb11
    replace m11 : h10.get? D11 = none := m11
    have u11 := u10.trans kb11
    refine spliced_nil ⟨sz_small (by simp), ?_⟩
    dsimp only
    generalize hHf : h11.push { cls := .type "tuple", data := .seq [Value.ref D8, Value.ref D11].toArray } = h12
    have up12' : Below h11 h12 := by rw [← hHf]; exact fun b o e => Heap.get?_push_of_some _ e
    have e12 : h12.IsTuple h11.objs.size #[.ref D8, .ref D11] := by rw [← hHf]; exact ⟨_, Heap.get?_push_size _ rfl, rfl, _, rfl⟩
    refine unpackItems_tuple (items := #[.ref D8, .ref D11]) rfl e12 fun h13 x13 => ?_
    have up13 : Below h12 h13 := fun b o e => x13 b o (Nat.ne_of_lt (Heap.lt_size e)) e
    have u13 := (u11.trans up12').trans up13
    refine wpAny_assignInOrder_more (bindName_ ?_)
    refine wpAny_storeName_local rfl (mp u13) fun h14 n14 s14 => ?_
    refine wpAny_assignInOrder_more (bindName_ ?_)
    refine wpAny_storeName_local rfl n14 fun h15 n15 s15 => wpAny_assignInOrder_none ?_
    have k15 : KpL L h13 h15 := (KpL.same s14).trans (.same s15)
    have lL : ∃ o, h6.get? L = some o := by obtain ⟨o, _, _, e, _⟩ := n6'; exact ⟨o, e⟩
    have nin : ∀ {D : Addr} {g : Heap}, Below h6 g → g.get? D = none → D ∉ [L, I] := fun k e z => by
      simp only [List.mem_cons, List.not_mem_nil, or_false] at z
      rcases z with z | z
      · obtain ⟨o, e'⟩ := lL; rw [z, k _ _ e'] at e; cases e
      · obtain ⟨o, e'⟩ := lI; rw [z, k _ _ e'] at e; cases e
    have d8 := nin up7 m8
    have d11 := nin u10 m11
    have e8' := k15 _ _ (fun z => d8 (by simp [z])) (up13 _ _ (up12' _ _ (kb11 _ _ (kb10 _ _ (kb9 _ _ e8)))))
    have e11' := k15 _ _ (fun z => d11 (by simp [z])) (up13 _ _ (up12' _ _ e11))
    refine wpAny_execs_nil ⟨rfl, h15, _, _, rfl, n15, (k6.trans (.of u13)).trans k15, D11, D8, lv.take p.toNat ++ lv.drop (p + 1).toNat, wv ++ [vp], 0, 0, rfl, rfl, hide_get.mpr ⟨e11', d11⟩, hide_get.mpr ⟨e8', d8⟩, ?_, ?_, ?_, ?_⟩
    · rw [List.length_append, List.length_take, List.length_drop]; lia
    · rw [List.length_append, lw1]; rfl
    · intro v hv
      rcases List.mem_append.mp hv with hv | hv
      · exact il _ (List.mem_of_mem_take hv)
      · exact il _ (List.mem_of_mem_drop hv)
    · intro v hv
      rcases List.mem_append.mp hv with hv | hv
      · exact iw _ hv
      · rw [List.mem_singleton.mp hv]; exact ivp
  rintro m h tk hn kp ⟨ll, lw, lv, wv, cl, cw, ml, mw, el, ew, ll1, lw1, il, iw⟩
  replace kp : KpL L h5 h := kp
  have e4 : wv.length = 4 := lw1
  have bp := fmodB (x.fdiv 384) (show (0 : Int) < 5 by decide)
  have k0 : KpL L h₁ h := (kp4.trans (.of up5)).trans kp
  have k0s : Below s.heap h := fun b o e => k0 b o (fun z => by rw [z, L0] at e; cases e) (kb1 b o e)
  have ch : h.IsCell (L + 1) (some (.int x tx)) := cell_at hcell fun o e => k0 _ _ (Nat.succ_ne_self L) e
  have ew0 : h.get? lw = some (PySem.W.listOf wv.toArray cw) := of_hideAll _ ew
  refine wpAny_execs_cons (wpAny_Return_some ?_)
  refine compE (cl := [(Str.ofString "whole", L + 1)]) ?d1 rfl ?d3 ?d4 ?_
  case d1 => kernel_rfl!
  case d3 => decide
  case d4 => intro; rfl
  refine sliM (s := s) (h := h) (tk := _) (fun Q' hq => nmL rfl rfl hn mw rfl hq) ⟨_, ew0, rfl, _, rfl⟩ (fun tk Q' hq => wpAny_evalPart_none (hq _ _ .none)) (fun tk Q' hq => wpAny_evalPart_some (wpAny_BinOp (conI fun _ _ => wpAny_BinOp (wpAny_BinOp (nmC rfl rfl rfl ch rfl (conI fun _ _ => divI (by decide) (by decide) fun _ _ => conI fun _ _ => modI (by decide) fun _ _ => PyProof.Rows.sub_int (hq _ _ (.int _ _)))))))) (pickT (by lia) (by lia)) (by exact fk1 1 1 (.v 0) (.n 64) (.v 0) (.n 4) rfl [_] (Nat.le_of_eq e4)) fun D2 h2 tk2 kb2 m2 e2 => ?_
  generalize hz : wv.take (4 - (x.fdiv 384).fmod 5).toNat = zs at e2
  have iz : ∀ v ∈ zs, InV v := fun v hv => iw v (List.mem_of_mem_take (hz ▸ hv))
  have lz : zs.length ≤ 4 := by rw [← hz, List.length_take]; lia
  have k2s := k0s.trans kb2
  refine srcList (s := { s with heap := h2, toks := tk2 }) (k := 0) rfl ⟨_, e2, rfl, _, rfl⟩ (sz_small (by rw [List.size_toArray]; exact fk1 1 1 (.v 0) (.n 64) (.v 0) (.n 4) rfl [_] lz)) (WsR s.heap) (fun i v g g' ⟨l, a, t, b, e1, e2, e3, e4⟩ k => ⟨l, a, t, b, e1, e2, k _ _ e3, e4⟩) (fun _ => rfl) ?_ ?_
  rotate_left
  · refine finB (s := { s with heap := h2, toks := tk2 }) (fun i v g g' ⟨l, a, t, b, e1, e2, e3, e4⟩ k => ⟨l, a, t, b, e1, e2, k _ _ e3, e4⟩) fun D ys h3 tk3 D0 kb3 ⟨c3, eD⟩ ly hys => ?_
    replace kb3 : Below h2 h3 := kb3
    replace D0 : h2.get? D = none := D0
    obtain ⟨ws, hw1, hw2⟩ := wsR_list hys
    have k3s := k2s.trans kb3
    refine hQ D ys ws c3 _ ⟨h3, tk3, rfl, k3s⟩ ?_ eD hw1 (by rw [← hw1, ly, List.size_toArray]; exact lz) hw2
    cases z : s.heap.get? D with
    | none => rfl
    | some o => rw [k2s _ _ z] at D0; cases D0
  intro I D C i v g tkg hig hx m' kbg nC hcs lvg n0 hsC
  replace kbg : Below h2 g := kbg
  obtain ⟨a, t, rfl, ia⟩ := iz v (List.mem_of_getElem? (by simpa using hx))
  have C0 : h2.get? C = none := n0 C (by simp)
  refine wpAny_assign_Name (wpAny_storeName_local rfl nC fun g2 o2 s2 => ?_)
  have k2 : ∀ b o, b ≠ C → g.get? b = some o → g2.get? b = some o := fun b o hb e => (s2.2 b hb).trans e
  have kg2 : Below h2 g2 := fun b o e => k2 b o (fun z => by rw [z, C0] at e; cases e) (kbg b o e)
  have o2' : g2.Ns C fun z => if z = Str.ofString "wish" then some (.int a t) else m' z := o2
  have cg : g2.IsCell (L + 1) (some (.int x tx)) := cell_at ch fun o e => kg2 _ _ (kb2 _ _ e)
  have pw := pw2 ia
  refine wpAny_List (spliced_cons (nmL rfl rfl o2' rfl rfl ?_))
  refine spliced_cons (wpAny_Compare1 (wpAny_BinOp (wpAny_BinOp (wpAny_BinOp ?_))))
  refine nmC rfl rfl rfl cg rfl (conI fun _ _ => divI (by decide) (by decide) fun _ _ => wpAny_BinOp (conI fun _ _ => nmL rfl rfl o2' rfl rfl ?_))
  refine PyProof.Rows.pow_int_small ia.1 (by have := ia.2; lia) (by decide) ?_
  refine divI pw.1 pw.2 fun _ _ => conI fun _ _ => modI (by decide) fun _ _ => conI fun _ _ => PyProof.Rows.eq_int ?_
  refine spliced_nil ⟨sz_small (by simp), ?_⟩
  dsimp only
  have n1 : g2.get? g2.objs.size = none := Heap.get?_none_of_le (Nat.le_refl _)
  refine ⟨_, _, _, rfl, fun b o hb e => Heap.get?_push_of_some _ (k2 b o (fun z => hb (z ▸ .head _)) e), o2'.keeps fun b o e => Heap.get?_push_of_some _ e, fun a ha => by simp [cellsK] at ha, _, a, t, _, rfl, ?_, hide_get.mpr ⟨Heap.get?_push_size _ rfl, fun hm => ?_⟩, ia⟩
  · cases z : s.heap.get? g2.objs.size with
    | none => rfl
    | some o => rw [kg2 _ _ (k2s _ _ z)] at n1; cases n1
  · obtain ⟨o', e'⟩ := lv_step lvg k2 o2' _ hm
    rw [n1] at e'; cases e'
end
end Mine
end
section
open PySem PySem.W PySem.Calls PyProof.Rows
set_option Elab.async false
set_option maxRecDepth 100000
set_option maxHeartbeats 8000000
set_option linter.unusedVariables false
namespace Mine
theorem pick6 (vs : List Value) : slicePick vs.toArray none (some 6) none = (vs.take 6).toArray := by
  rw [kms_pick_eq]
  congr 1
  unfold kms_pick kms_lo kms_hi
  simp
theorem wsAt_mk {h : Heap} {D : Addr} {n : Nat} {vs : List Value} {ws : List (Int × Bool)} (e : h.get? D = some (PySem.W.listOf vs.toArray n)) (h1 : vs.length = ws.length) (h2 : ws.length ≤ 4) (h3 : ∀ (i : Nat) (v : Value), vs[i]? = some v → ∃ l a t b, v = .ref l ∧ h.get? l = some (PySem.W.listOf #[.int a t, .bool b] 0) ∧ InR a ∧ ws[i]? = some (a, b)) : WsAt h D ws := ⟨vs, n, e, h1, h2, h3⟩
noncomputable abbrev fz (L : Addr) (h : Heap) : Heap := hideAll (fx L h) [L + 1 + 1 + 1 + 1 + 1]
noncomputable def nums5 : List Int := [33188, 16877, 33261, 82413, 33188]
section
variable {w : World} {loose : List Str} {mean : ExcName → Option Value} {mg mb : Str → Option Value} {A : Around} {E : Value → Shared → Prop} {s : Shared} {L : Addr} {q : LP}
theorem fz_below {h h' : Heap} (k : Below h h') : Below (fz L h) (fz L h') := Kp.hide (Kp.all (fx_below k))
/-- the wishes' cell is set -/
theorem LSt.set5 {h h' : Heap} (S : LSt w loose mean mg mb L q h) (X : (kfr w.params).In (fz L h)) (T : Top topProg loose mean mg mb (fz L h)) (sb : Heap.SameBut (L + 1 + 1 + 1 + 1 + 1) h h') :
    LSt w loose mean mg mb L q h' ∧ Below (fz L h) (fx L h') := by
  have k : ∀ b o, b ≠ L + 1 + 1 + 1 + 1 + 1 → h.get? b = some o → h'.get? b = some o := fun b o n e => (sb.2 b n).trans e
  have kp : Below (fz L h) (fx L h') := fun b o e => by
    obtain ⟨e1, n1⟩ := hide_get.mp e
    obtain ⟨e2, n2⟩ := hide_get.mp e1
    exact hide_get.mpr ⟨k b o (fun z => n1 (by simp [z])) e2, n2⟩
  obtain ⟨n1, n2, n3⟩ := S.cne 5
  exact ⟨⟨X.keeps kp, T.keeps kp, k _ _ n1 S.t100, S.lt, S.ns.at' fun o e => k _ _ (addne (L := L) (i := 0) (j := 5) (by decide)) e, cell_at S.i1 fun o e => k _ _ (addne (L := L) (i := 1) (j := 5) (by decide)) e, cell_at S.i2 fun o e => k _ _ (addne (L := L) (i := 2) (j := 5) (by decide)) e,
    cell_at S.i3 fun o e => k _ _ (addne (L := L) (i := 3) (j := 5) (by decide)) e, cell_at S.i4 fun o e => k _ _ (addne (L := L) (i := 4) (j := 5) (by decide)) e, k _ _ n2 S.t23, k _ _ n3 S.t124⟩, kp⟩
theorem st0 {l : Addr} {vs : List Value} {ns : List Int} (S : LSt w loose mean mg mb L q s.heap) (r : Rm A 30) (X : (kfr w.params).In (fz L s.heap)) (T : Top topProg loose mean mg mb (fz L s.heap)) (hm : q.m (Str.ofString "script") = some (.ref l)) (hl : s.heap.IsList l vs.toArray) (hi : IntsAre vs ns) (hsz : vs.length ≤ 63)
    (hc5 : s.heap.IsCell (L + 1 + 1 + 1 + 1 + 1) none) :
    wpAny (model PR w) A (exec (lawS 0) (lawE L)) (Nx s fun h' => ∃ ln nv D0 ws cn, LSt w loose mean mg mb L { q with m := fun z => if z = Str.ofString "numbers" then some (.ref ln) else q.m z } h' ∧ Below (fz L s.heap) (fx L h') ∧
      (fx L h').get? ln = some (PySem.W.listOf nv.toArray cn) ∧ IntsAre nv (ns.take 6 ++ nums5) ∧ (fx L h').IsCell (L + 1 + 1 + 1 + 1 + 1) (some (.ref D0)) ∧ WsAt (fx L h') D0 ws) E s := by
  obtain ⟨Ah, Ad, Af, Ag, Au⟩ := A
  obtain rfl : Ah = none := r.1
  refine Assign_Tuple ?_ rfl (by kernel_rfl!)
  refine wpAny_Tuple (spliced_cons ?_)
  refine wpAny_BinOp ?_
  have kz : Below (fz L s.heap) s.heap := fun b o e => of_hideAll _ (of_hideAll _ e)
  refine sliL (fun Q' h => nmL rfl rfl S.ns hm rfl h) hl part0 partI part0 (by decide) (pick6 vs) (by exact fk1 1 1 (.v 0) (.n 64) (.v 0) (.n 63) rfl [_] hsz) rfl fun D1 h1 tk1 kb1 n1 e1 => ?_
  refine wpAny_List (spliced_cons (conI (p := ⟨109, 37, 109, 42⟩) (k := 0) fun t1 tka => ?_))
  refine spliced_cons (conI (p := ⟨109, 44, 109, 49⟩) (k := 0) fun t2 tkb => ?_)
  refine spliced_cons (conI (p := ⟨109, 51, 109, 56⟩) (k := 0) fun t3 tkc => ?_)
  refine spliced_cons (conI (p := ⟨109, 58, 109, 63⟩) (k := 0) fun t4 tkd => ?_)
  refine spliced_cons (conI (p := ⟨109, 65, 109, 70⟩) (k := 0) fun t5 tke => ?_)
  refine spliced_nil ⟨sz_small (by simp), ?_⟩
  dsimp only
  generalize hH2 : h1.push { cls := .type "list", data := .seq [Value.int 33188 t1, Value.int 16877 t2, Value.int 33261 t3, Value.int 82413 t4, Value.int 33188 t5].toArray } = h2
  have kb2 : Below h1 h2 := by rw [← hH2]; exact fun b o e => Heap.get?_push_of_some _ e
  have e2 : h2.get? h1.objs.size = some (PySem.W.listOf [Value.int 33188 t1, Value.int 16877 t2, Value.int 33261 t3, Value.int 82413 t4, Value.int 33188 t5].toArray 0) := by rw [← hH2]; exact Heap.get?_push_size _ rfl
  have hlt6 : (vs.take 6).length ≤ 6 := by rw [List.length_take]; exact Nat.min_le_left _ _
  refine addLL (s := { s with heap := h2, toks := _ }) (kb2 _ _ e1) e2 (by simp only [List.length_cons, List.length_nil]; exact fk1 1 1 (.a (.v 0) (.a (.a (.a (.a (.a (.n 0) (.n 1)) (.n 1)) (.n 1)) (.n 1)) (.n 1))) (.n 64) (.v 0) (.n 6) rfl [_] hlt6) fun D3 h3 kb3 n3 e3 => ?_
  replace kb3 : Below h2 h3 := kb3
  have k3 : Below s.heap h3 := (kb1.trans kb2).trans kb3
  have hnum : IntsAre (vs.take 6 ++ [Value.int 33188 t1, Value.int 16877 t2, Value.int 33261 t3, Value.int 82413 t4, Value.int 33188 t5]) (ns.take 6 ++ nums5) := (hi.take 6).append (.cons _ _ (.cons _ _ (.cons _ _ (.cons _ _ (.cons _ _ .nil)))))
  have S3 := S.grown k3
  have D30 : s.heap.get? D3 = none := by
    cases z : s.heap.get? D3 with
    | none => rfl
    | some o => have n3' : h2.get? D3 = none := n3; rw [kb2 _ _ (kb1 _ _ z)] at n3'; cases n3'
  refine spliced_cons ?_
  refine wpAny_Call_Name_kw (ldG X T (kz.trans k3) rfl rfl rfl (v := .ref 122) (by kernel_rfl!) rfl ?_)
  obtain ⟨o3, fd3, e4, d3⟩ : FnAt 122 (fz L s.heap) := ⟨_, _, X 122 _ (by k_is), rfl⟩
  refine callWith_function_kw (o := o3) (fd := fd3) (Calls.evalArgs_plain ?_)
  refine spliced_cons ?_
  refine wpAny_Call_NameR (ldB X T (kz.trans k3) rfl rfl rfl rfl (v := .builtin "sum") (by kernel_rfl!) (by kernel_rfl!) (by decide) rfl ?_)
  refine PyProof.Rows.callWith_builtin1 ?_
  refine spliced_cons ?_
  refine sliL (s := { s with heap := h3, toks := _ }) (fun Q' h => nmL rfl rfl S3.ns hm rfl h) (let ⟨o, e, q⟩ := hl; ⟨o, k3 _ _ e, q⟩) part0 partI part0 (by decide) (pick6 vs) (by exact fk1 1 1 (.v 0) (.n 64) (.v 0) (.n 63) rfl [_] hsz) rfl fun D5 h5 tk5 kb5 n5 e5 => ?_
  replace kb5 : Below h3 h5 := kb5
  refine spliced_nil ?_
  obtain ⟨xs, hx⟩ := (hi.take 6).allInts.items
  refine sum_intListG (xs := xs) rfl (hx ▸ ⟨_, e5, rfl, _, rfl⟩) fun h6 tk6 t6 kb6 => ?_
  replace kb6 : Below h5 h6 := kb6
  have k6 : Below s.heap h6 := (k3.trans kb5).trans kb6
  have S6 := S.grown k6
  refine spliced_nil ⟨⟨k6 _ _ (kz _ _ e4), d3⟩, ?_⟩
  refine c_wishes (s := { s with heap := h6, toks := _ }) S6.wd (r.le (by decide)) ?_
  rintro D0 wv ws n s' ⟨h7, tk7, rfl, kb7⟩ n70 e70 lw hw4 fw0
  replace kb7 : Below h6 h7 := kb7
  replace e70 : h7.get? D0 = some (PySem.W.listOf wv.toArray n) := e70
  replace n70 : h6.get? D0 = none := n70
  refine spliced_nil ⟨sz_small (by simp), ?_⟩
  dsimp only
  generalize hH8 : h7.push { cls := .type "tuple", data := .seq [Value.ref D3, Value.ref D0].toArray } = h8
  have kb8 : Below h7 h8 := by rw [← hH8]; exact fun b o e => Heap.get?_push_of_some _ e
  have e8 : h8.IsTuple h7.objs.size #[.ref D3, .ref D0] := by rw [← hH8]; exact ⟨_, Heap.get?_push_size _ rfl, rfl, _, rfl⟩
  refine asgT2 rfl e8 fun h9 kb9 => ?_
  replace kb9 : Below h8 h9 := kb9
  have k9 : Below s.heap h9 := ((k6.trans kb7).trans kb8).trans kb9
  have S9 := S.grown k9
  refine wpAny_storeName_local rfl S9.ns fun h10 n10 s10 => ?_
  obtain ⟨S10, k10⟩ := S9.setL n10 s10
  have c5 : h10.IsCell (L + 1 + 1 + 1 + 1 + 1) none := cell_at hc5 fun o e => (s10.2 _ (addne (L := L) (i := 5) (j := 0) (by decide))).trans (k9 _ _ e)
  refine wpAny_storeName_cell rfl rfl (lawE_wishes L) c5 fun h11 n11 s11 => ?_
  have kz10 : Below (fz L s.heap) (fz L h10) := fun b o e => by
    obtain ⟨e1, m1⟩ := hide_get.mp e
    exact hide_get.mpr ⟨k10 b o (fx_below k9 b o e1), m1⟩
  obtain ⟨S11, k11⟩ := S10.set5 (X.keeps kz10) (T.keeps kz10) s11
  have fresh : ∀ b o, s.heap.get? b = none → h9.get? b = some o → (fx L h11).get? b = some o := fun b o n e => by
    have m1 : b ∉ vol L := fun z => by obtain ⟨o', e'⟩ := S.live b z; rw [n] at e'; cases e'
    have m2 : b ≠ L + 1 + 1 + 1 + 1 + 1 := fun z => by obtain ⟨o', e', _⟩ := hc5; rw [z] at n; rw [n] at e'; cases e'
    exact k11 b o (hide_get.mpr ⟨k10 b o (hide_get.mpr ⟨e, m1⟩), by simp [m2]⟩)
  have old : ∀ b, h6.get? b = none → s.heap.get? b = none := fun b e => by
    cases z : s.heap.get? b with
    | none => rfl
    | some o => rw [k6 _ _ z] at e; cases e
  have fw : ∀ (i : Nat) (v : Value), wv[i]? = some v → ∃ l a t b, v = .ref l ∧ (fx L h11).get? l = some (PySem.W.listOf #[.int a t, .bool b] 0) ∧ InR a ∧ ws[i]? = some (a, b) := fun i v e => by
    obtain ⟨l, a, t, b, q1, q2, q3, q4⟩ := fw0 i v e
    exact ⟨l, a, t, b, q1, fresh _ _ (old _ q2) (kb9 _ _ (kb8 _ _ q3)), q4⟩
  have c5v : L + 1 + 1 + 1 + 1 + 1 ∉ vol L := fun z => by
    have f : ∀ i : Nat, i < 5 → L + 5 ≠ L + i := fun i hi => addne (by lia)
    obtain ⟨m1, m2, m3⟩ := S.cne 5
    simp only [vol, List.mem_cons, List.not_mem_nil, or_false] at z
    rcases z with z | z | z | z | z | z | z | z
    · exact m2 z.symm
    · exact m1 z.symm
    · exact m3 z.symm
    · exact f 0 (by decide) z
    · exact f 1 (by decide) z
    · exact f 2 (by decide) z
    · exact f 3 (by decide) z
    · exact f 4 (by decide) z
  have e9 := kb9 _ _ (kb8 _ _ (kb7 _ _ (kb6 _ _ (kb5 _ _ e3))))
  have e11 := fresh _ _ D30 e9
  have eD0 : (fx L h11).get? D0 = some (PySem.W.listOf wv.toArray n) := fresh _ _ (old _ n70) (kb9 _ _ (kb8 _ _ e70))
  have eW : WsAt (fx L h11) D0 ws := wsAt_mk eD0 lw hw4 fw
  have kk := kz10.trans k11
  generalize vs.take 6 ++ [Value.int 33188 t1, Value.int 16877 t2, Value.int 33261 t3, Value.int 82413 t4, Value.int 33188 t5] = nv at hnum e11
  generalize ns.take 6 ++ nums5 = nn at hnum ⊢
  refine ⟨rfl, h11, _, rfl, D3, nv, D0, ws, 0, S11, kk, e11, hnum, ?_, eW⟩
  obtain ⟨o, e, q⟩ := n11
  exact ⟨o, hide_get.mpr ⟨e, c5v⟩, q⟩
end
end Mine
end
section
open PySem PySem.W PySem.Calls PyProof.Rows
set_option Elab.async false
set_option maxRecDepth 100000
set_option maxHeartbeats 8000000
set_option linter.unusedVariables false
namespace Mine
section
variable {w : World} {loose : List Str} {mean : ExcName → Option Value} {mg mb : Str → Option Value} {A : Around} {E : Value → Shared → Prop} {s : Shared} {L : Addr} {q : LP}
/-- one statement and on -/
theorem nxt {st : Stmt} {rest : List Stmt} {P : Heap → Prop} {Q : Flow → Shared → Prop} {env : Env} (h : wpAny (model PR w) A (exec st env) (Nx s P) E s) (k : ∀ h' tk', P h' → wpAny (model PR w) A (execs rest env) Q E { s with heap := h', toks := tk' }) : wpAny (model PR w) A (execs (st :: rest) env) Q E s := by
  refine wpAny_execs_cons (wpAny_mono h (fun f s' hf => ?_) fun _ _ e => e)
  obtain ⟨rfl, h', tk', rfl, hP⟩ := hf
  exact k h' tk' hP
/-- the law's body -/
theorem law_body {l : Addr} {vs : List Value} {ns : List Int} {Q : Flow → Shared → Prop} (S : LSt w loose mean mg mb L q s.heap) (r : Rm A 40) (X : (kfr w.params).In (fz L s.heap)) (T : Top topProg loose mean mg mb (fz L s.heap)) (hm : q.m (Str.ofString "script") = some (.ref l)) (hl : s.heap.IsList l vs.toArray) (hi : IntsAre vs ns) (hsz : vs.length ≤ 63)
    (hc5 : s.heap.IsCell (L + 1 + 1 + 1 + 1 + 1) none) (h23 : q.o23 = tabObj #[]) (h124 : q.p124 = #[]) (h1 : ∃ o, (fz L s.heap).get? sysModules = some o) (h2 : (fz L s.heap).get? cStatics = some ⟨.none, none, .dict #[] 0, #[]⟩)
    (hQ : ∀ h' tk' p23 p100 p124, Below (fz L s.heap) h' → h'.get? 23 = some (tabObj p23) → h'.get? 100 = some (tabObj p100) → h'.get? 124 = some (tabObj p124) → Q (.ret (.bool true)) { s with heap := h', toks := tk' }) :
    wpAny (model PR w) A (execs lawDef.1 (lawE L)) Q E s := by
  rw [law_parts]
  refine nxt (st0 S (r.le (by decide)) X T hm hl hi hsz hc5) ?_
  rintro H0 tk0 ⟨ln, nv, D0, ws, cn, S0, k0, eln, hnv, hw, hD⟩
  obtain ⟨b, S0, a1, a2, a3⟩ : ∃ b : LP, LSt w loose mean mg mb L b H0 ∧ b.m (Str.ofString "numbers") = some (.ref ln) ∧ b.o23 = tabObj #[] ∧ b.p124 = #[] := ⟨_, S0, rfl, h23, h124⟩
  clear S hm h23 h124 hl hi
  have xl : 5 ≤ (ns.take 6 ++ nums5).length ∧ (ns.take 6 ++ nums5).length ≤ 11 := by
    rw [List.length_append, List.length_take, show nums5.length = 5 from rfl]; lia
  generalize ns.take 6 ++ nums5 = xs at hnv xl
  refine nxt (st1 S0 (r.le (by decide)) a1 ⟨_, eln, rfl, _, rfl⟩ hnv (by rw [ints_len' hnv]; exact fk1 1 1 (.v 0) (.n 60) (.v 0) (.n 11) rfl [_] xl.2)) ?_
  rintro H1 tk1 ⟨lf, fs, S1, k1, F1⟩
  replace ⟨b, S1, a1, a2, a3⟩ : ∃ b : LP, LSt w loose mean mg mb L b H1 ∧ b.m (Str.ofString "files") = some (.ref lf) ∧ b.o23 = tabObj #[] ∧ b.p124 = #[] := ⟨_, S1, rfl, a2, a3⟩
  refine nxt (st2 S1 (r.le (by decide)) a1 F1 (by exact fk1 1 1 (.v 0) (.n 60) (.v 0) (.n 11) rfl [_] xl.2)) ?_
  rintro H2 tk2 ⟨lt, ts, S2, k2, F2⟩
  replace ⟨b, S2, a4, a1, a2, a3⟩ : ∃ b : LP, LSt w loose mean mg mb L b H2 ∧ b.m (Str.ofString "told") = some (.ref lt) ∧ b.m (Str.ofString "files") = some (.ref lf) ∧ b.o23 = tabObj #[] ∧ b.p124 = #[] := ⟨_, S2, rfl, a1, a2, a3⟩
  have k02 := (k0.trans k1).trans k2
  obtain ⟨o1, e1⟩ := h1
  refine nxt (st3 S2 (r.le (by decide)) a2 a3 ⟨o1, k02 _ _ e1⟩ (k02 _ _ h2)) ?_
  rintro H3 tk3 ⟨C, mf, tu0, p23, c1, S3, k3, K3, etu⟩
  replace ⟨b, S3, a5, a6, a4, a1, a2, a3⟩ : ∃ b : LP, LSt w loose mean mg mb L b H3 ∧ b.m (Str.ofString "row") = some (.ref C) ∧ b.m (Str.ofString "turns") = some (.ref tu0) ∧ b.m (Str.ofString "told") = some (.ref lt) ∧ b.m (Str.ofString "files") = some (.ref lf) ∧ b.o23 = tabObj p23 ∧ b.p124 = #[rawInt 112, rawInt 29, .ref c1] := ⟨_, S3, rfl, rfl, a4, a1, rfl, rfl⟩
  refine nxt (st4 S3 (r.le (by decide)) a4 a6 etu (F2.mono (rowR_mono xs fs) k3) (by exact fk1 1 1 (.v 0) (.n 60) (.v 0) (.n 11) rfl [_] xl.2)) ?_
  rintro H4 tk4 ⟨q4', S4, k4, tu, us, cc1, cc2, rfl, F4⟩
  replace ⟨b, S4, a5, a6, a4, a1, a2, a3⟩ : ∃ b : LP, LSt w loose mean mg mb L b H4 ∧ b.m (Str.ofString "row") = some (.ref C) ∧ b.m (Str.ofString "turns") = some (.ref tu) ∧ b.m (Str.ofString "told") = some (.ref lt) ∧ b.m (Str.ofString "files") = some (.ref lf) ∧ b.o23 = tabObj p23 ∧ b.p124 = #[rawInt 112, rawInt 29, .ref c1] := ⟨_, S4, a5, rfl, a4, a1, a2, a3⟩
  have k24 := (k2.trans k3).trans k4
  refine nxt (st5 S4 (r.le (by decide)) a1 (F1.mono (fileR_mono xs) k24) (by exact fk1 1 1 (.v 0) (.n 60) (.v 0) (.n 11) rfl [_] xl.2)) ?_
  rintro H5 tk5 ⟨ld, ds, S5, k5, F5⟩
  replace ⟨b, S5, a7, a5, a6, a4, a2, a3⟩ : ∃ b : LP, LSt w loose mean mg mb L b H5 ∧ b.c3 = some (.ref ld) ∧ b.m (Str.ofString "row") = some (.ref C) ∧ b.m (Str.ofString "turns") = some (.ref tu) ∧ b.m (Str.ofString "told") = some (.ref lt) ∧ b.o23 = tabObj p23 ∧ b.p124 = #[rawInt 112, rawInt 29, .ref c1] := ⟨_, S5, rfl, a5, a6, a4, a2, a3⟩
  refine nxt (st6 S5 (r.le (by decide)) a7 F5 (by exact fk1 1 1 (.v 0) (.n 60) (.v 0) (.n 11) rfl [_] xl.2)) ?_
  rintro H6 tk6 ⟨lg, gs, S6, k6, F6⟩
  replace ⟨b, S6, a8, a7, a5, a6, a4, a2, a3⟩ : ∃ b : LP, LSt w loose mean mg mb L b H6 ∧ b.m (Str.ofString "signs") = some (.ref lg) ∧ b.c3 = some (.ref ld) ∧ b.m (Str.ofString "row") = some (.ref C) ∧ b.m (Str.ofString "turns") = some (.ref tu) ∧ b.m (Str.ofString "told") = some (.ref lt) ∧ b.o23 = tabObj p23 ∧ b.p124 = #[rawInt 112, rawInt 29, .ref c1] := ⟨_, S6, rfl, a7, a5, a6, a4, a2, a3⟩
  have k16 := ((k1.trans k24).trans k5).trans k6
  refine nxt (st7 S6 (r.le (by decide)) a7 (F5.mono (rowR_mono xs fs) k6) (by exact fk1 1 1 (.n 2) (.v 0) (.n 5) (.v 0) rfl [_] xl.1) (by exact fk1 1 1 (.v 0) (.n 60) (.v 0) (.n 11) rfl [_] xl.2) a3 (cell_at hw fun o e => k16 _ _ e) (wsAt_up hD k16)) ?_
  rintro H7 tk7 ⟨q7, S7, k7, du, p, bk, c4, pp, rfl, ⟨nd, edu⟩, hp, ho, hpp⟩
  replace ⟨b, S7, a8, a7, a5, a6, a4, a2⟩ : ∃ b : LP, LSt w loose mean mg mb L b H7 ∧ b.m (Str.ofString "signs") = some (.ref lg) ∧ b.c3 = some (.ref du) ∧ b.m (Str.ofString "row") = some (.ref C) ∧ b.m (Str.ofString "turns") = some (.ref tu) ∧ b.m (Str.ofString "told") = some (.ref lt) ∧ b.o23 = tabObj p23 := ⟨_, S7, a8, rfl, a5, a6, a4, a2⟩
  clear hpp a3
  rw [Nat.sub_self, List.drop_zero] at ho
  have dlen : ds.length = xs.length := F5.2.1
  obtain ⟨pl, hpl⟩ : ∃ l, p.getLast? = some l := by
    cases hz : p.getLast? with
    | some l => exact ⟨l, rfl⟩
    | none =>
      have : p = [] := List.getLast?_eq_none_iff.mp hz
      have := hp.length_eq
      rw [List.length_range] at this
      simp_all
  have k67 := k6.trans k7
  have hrow7 : ∀ j v, ds[j]? = some v → RowR xs fs j v (fx L H7) := fun j v e => rowR_mono xs fs _ _ _ _ (F5.2.2 j v e) k67
  have k17 := k16.trans k7
  refine nxt (st8 S7 (r.le (by decide)) a7 edu hp dlen hrow7 (by exact fk1 1 1 (.v 0) (.n 60) (.v 0) (.n 11) rfl [_] xl.2) (cell_at hw fun o e => k17 _ _ e) (wsAt_up hD k17) hpl) ?_
  rintro H8 tk8 ⟨i0, vl, S8, k8, hi0, hvl⟩
  replace ⟨b, S8, a9, a8, a7, a5, a6, a4, a2⟩ : ∃ b : LP, LSt w loose mean mg mb L b H8 ∧ b.m (Str.ofString "last") = some vl ∧ b.m (Str.ofString "signs") = some (.ref lg) ∧ b.c3 = some (.ref du) ∧ b.m (Str.ofString "row") = some (.ref C) ∧ b.m (Str.ofString "turns") = some (.ref tu) ∧ b.m (Str.ofString "told") = some (.ref lt) ∧ b.o23 = tabObj p23 := ⟨_, S8, rfl, a8, a7, a5, a6, a4, a2⟩
  have k18 := k17.trans k8
  have k58 := k67.trans k8
  have k48 := k5.trans k58
  have k38 := k4.trans k48
  have k28 := k3.trans k38
  have k1' := k2.trans k28
  refine wpAny_execs_cons (wpAny_mono (st9 S8 r a4 (F2.mono (rowR_mono xs fs) k28) a6 (F4.mono (rowT_mono xs) k48) a8 (F6.mono (rowT_mono xs) (k7.trans k8)) a7 (k8 _ _ edu) dlen (fun j v e => rowR_mono xs fs _ _ _ _ (hrow7 j v e) k8) (dlen ▸ hp) ho a9 hpl hi0 hvl a5 (K3.mono k38) (cell_at hw fun o e => k18 _ _ e) (wsAt_up hD k18) (fun j v e => fileR_mono xs _ _ _ _ (F1.2.2 j v e) k1') (by exact fk1 1 1 (.n 2) (.v 0) (.n 5) (.v 0) rfl [_] xl.1) (by exact fk1 1 1 (.v 0) (.n 60) (.v 0) (.n 11) rfl [_] xl.2)) (fun f s' hf => ?_) fun _ _ e => e)
  obtain ⟨rfl, h', tk', rfl, x9, ps, e100, _⟩ := hf
  replace x9 : Ext1 H8 h' := x9
  have kall : Below (fz L s.heap) h' := fun b o e => by
    have e8 := k18 _ _ (k0 _ _ e)
    obtain ⟨e9, n9⟩ := hide_get.mp e8
    exact x9 b o (fun z => n9 (by simp [z])) e9
  exact hQ h' tk' _ _ _ kall (a2 ▸ x9 _ _ (by decide) S8.t23) e100 (x9 _ _ (by decide) S8.t124)
/-- the law called -/
theorem law_in {l : Addr} {vs : List Value} {ns : List Int} {Q : Value → Shared → Prop} (W : Wd3 w loose mean mg mb s.heap) (r : Rm A 41) (hl : s.heap.IsList l vs.toArray) (hi : IntsAre vs ns) (hsz : vs.length ≤ 63)
    (h23 : s.heap.get? 23 = some (tabObj #[])) (h100 : s.heap.get? 100 = some (tabObj #[])) (h124 : s.heap.get? 124 = some (tabObj #[])) (h1 : ∃ o, (g3 s.heap).get? sysModules = some o) (h2 : (g3 s.heap).get? cStatics = some ⟨.none, none, .dict #[] 0, #[]⟩)
    (hQ : ∀ h' tk' p23 p100 p124, Below (g3 s.heap) h' → h'.get? 23 = some (tabObj p23) → h'.get? 100 = some (tabObj p100) → h'.get? 124 = some (tabObj p124) → Q (.bool true) { s with heap := h', toks := tk' }) :
    wpAny (model PR w) A (call (.ref 127) [.ref l]) Q E s := by
  have X := W.X
  have T := W.T
  obtain ⟨Ah, Ad, Af, Ag, Au⟩ := A
  obtain rfl : Ah = none := r.1
  refine enter3 W h23 h124 r (X _ _ (by k_is)) rfl (codeRec_of X (by k_is)) (BindsTo.of_eq rfl) (by rfl) (by decide) ?_
  intro ps L h₁ tk cells hL V h100' lt r' x₁ F N C
  obtain ⟨o5, o4, o3, o2, o1, rfl, c5, c4, c3, c2, c1⟩ := kc_five C
  clear C
  rw [h100] at h100'
  cases h100'
  have hc5 : o5.data = .cell none := c5
  have hc4 : o4.data = .cell none := c4
  have hc3 : o3.data = .cell none := c3
  have hc2 : o2.data = .cell none := c2
  have hc1 : o1.data = .cell none := c1
  have N' : News (g3 s.heap) L h₁ [(L + 1 + 1 + 1 + 1 + 1, o5), (L + 1 + 1 + 1 + 1, o4), (L + 1 + 1 + 1, o3), (L + 1 + 1, o2), (L + 1, o1), (23, tabObj #[]), (100, tabObj #[]), (124, tabObj #[])] := N
  clear N
  have F' : Fr (g3 s.heap) L h₁ (fun y => if y = Str.ofString "script" then some (.ref l) else none) := F
  clear F
  have kz : Below (g3 s.heap) (fz L h₁) := fun b o e => by
    obtain ⟨e1, n1, n2, n3⟩ := of_g3 e
    have hb : (b : Nat) < L := by rw [hL]; exact Heap.lt_size e1
    have f : ∀ i : Nat, b ≠ L + i := fun i => Nat.ne_of_lt (Nat.lt_of_lt_of_le hb (Nat.le_add_right _ _))
    refine hide_get.mpr ⟨hide_get.mpr ⟨x₁ _ _ e1, fun z => ?_⟩, fun z => ?_⟩
    · simp only [vol, List.mem_cons, List.not_mem_nil, or_false] at z
      rcases z with z | z | z | z | z | z | z | z
      · exact n1 z
      · exact n2 z
      · exact n3 z
      · exact f 0 z
      · exact f 1 z
      · exact f 2 z
      · exact f 3 z
      · exact f 4 z
    · exact f 5 (List.mem_singleton.mp z)
  have kx : Below (g3 s.heap) (fx L h₁) := fun b o e => of_hideAll _ (kz b o e)
  have S : LSt w loose mean mg mb L ⟨fun y => if y = Str.ofString "script" then some (.ref l) else none, none, none, none, none, tabObj #[], #[]⟩ h₁ :=
    ⟨X.keeps kx, T.keeps kx, x₁ _ _ h100, lt, F'.ns, ⟨o1, (N' (L + 1, o1) (.tail _ (.tail _ (.tail _ (.tail _ (.head _)))))).1, hc1⟩, ⟨o2, (N' (L + 1 + 1, o2) (.tail _ (.tail _ (.tail _ (.head _))))).1, hc2⟩, ⟨o3, (N' (L + 1 + 1 + 1, o3) (.tail _ (.tail _ (.head _)))).1, hc3⟩, ⟨o4, (N' (L + 1 + 1 + 1 + 1, o4) (.tail _ (.head _))).1, hc4⟩, x₁ _ _ h23, x₁ _ _ h124⟩
  have hc50 : h₁.IsCell (L + 1 + 1 + 1 + 1 + 1) none := ⟨o5, (N' (L + 1 + 1 + 1 + 1 + 1, o5) (.head _)).1, hc5⟩
  obtain ⟨om, e1⟩ := h1
  exact law_body (s := { s with heap := h₁, toks := tk }) S r' (X.keeps kz) (T.keeps kz) rfl (let ⟨o, e, q⟩ := hl; ⟨o, x₁ _ _ e, q⟩) hi hsz hc50 rfl rfl ⟨om, kz _ _ e1⟩ (kz _ _ h2) fun h' tk' p23 p100 p124 k a b c => hQ h' tk' p23 p100 p124 (kz.trans k) a b c
end
end Mine
end
section
open PySem PySem.W PySem.W.X PySem.Calls PyProof.Rows
set_option Elab.async false
set_option maxRecDepth 100000
set_option maxHeartbeats 8000000
set_option linter.unusedVariables false
namespace Mine
theorem hx_tabs {w : World} {h : Heap} (Y : (kfr w.params).In h) (a : h.get? 23 = some (tabObj #[])) (b : h.get? 100 = some (tabObj #[])) (c : h.get? 124 = some (tabObj #[])) : TabsAt [(27, 23), (102, 100), (126, 124)] h := by
  intro q hq
  simp only [List.mem_cons, List.not_mem_nil, or_false] at hq
  rcases hq with rfl | rfl | rfl
  · exact ⟨⟨_, _, _, _, _, _, _, _, _, Y 27 _ (by k_is), rfl, rfl, rfl, rfl, rfl, rfl, rfl, rfl, by decide⟩, a⟩
  · exact ⟨⟨_, _, _, _, _, _, _, _, _, Y 102 _ (by k_is), rfl, rfl, rfl, rfl, rfl, rfl, rfl, rfl, by decide⟩, b⟩
  · exact ⟨⟨_, _, _, _, _, _, _, _, _, Y 126 _ (by k_is), rfl, rfl, rfl, rfl, rfl, rfl, rfl, rfl, by decide⟩, c⟩
theorem oldK_of {g h : Heap} {p23 p100 p124 : Array Value} (hT : TabsAt [(27, 23), (102, 100), (126, 124)] g) (k : Below (g3 g) h) (e23 : h.get? 23 = some (tabObj p23)) (e100 : h.get? 100 = some (tabObj p100)) (e124 : h.get? 124 = some (tabObj p124)) : OldK g h := by
  have one : ∀ c P p, (c, P) ∈ [((27 : Addr), (23 : Addr)), (102, 100), (126, 124)] → h.get? P = some (tabObj p) → ∀ o, g.get? P = some o → asItWas g h P o := by
    intro c P p hm e o eo
    obtain ⟨C, t⟩ := hT (c, P) hm
    have t' : g.get? P = some (tabObj #[]) := t
    rw [t'] at eo
    cases eo
    exact .inr (.inl ⟨(C.tab t).isCodeTable, rfl, #[], p, rfl, by rw [Array.empty_append]; exact e⟩)
  refine ⟨fun b o e => ?_, fun b o e => ?_⟩
  · by_cases h1 : b = 23
    · subst h1; exact one 27 23 _ (by simp) e23 o e
    by_cases h2 : b = 100
    · subst h2; exact one 102 100 _ (by simp) e100 o e
    by_cases h3 : b = 124
    · subst h3; exact one 126 124 _ (by simp) e124 o e
    exact .inl (k _ _ (g3_ne e h1 h2 h3))
  · by_cases h1 : b = 23
    · subst h1; exact ⟨_, e23⟩
    by_cases h2 : b = 100
    · subst h2; exact ⟨_, e100⟩
    by_cases h3 : b = 124
    · subst h3; exact ⟨_, e124⟩
    exact ⟨o, k _ _ (g3_ne e h1 h2 h3)⟩
theorem law_end {w : World} {s₁ : Shared} {mg mb : Str → Option Value} {p : Program} {loose : List Str} {mean mean' : ExcName → Option Value} {cl : Str → Option Addr} {args : List WData} {E : Value → Shared → Prop} {l : Addr} {vs : List Value} {ns : List Int}
    (X : (kfr w.params).In s₁.heap) (tb : ∀ P ∈ ([100, 23, 124] : List Addr), s₁.heap.get? P = some (tabObj #[])) (d : ∃ o, s₁.heap.get? sysModules = some o) (T : Top p loose mean mg mb s₁.heap) (hg : s₁.gens = #[]) (hl : s₁.heap.IsList l vs.toArray) (hi : IntsAre vs ns) (hn : ¬ (63 : Int) < (ns.length : Int)) (hr : ∀ cls, PySem.Challenge.rw_oc0074_01.row.claim.raises args cls = false) (hpost : PySem.Challenge.rw_oc0074_01.row.claim.post args (.bool true) args = true) :
    wpAny (model PR w) callerA (call (.ref 127) [.ref l]) (fun v s' => GoodWG PySem.Challenge.rw_oc0074_01.row.claim cl mean' args s₁ (.ok (.ret v)) s') E s₁ := by
  have a := tb 23 (by simp)
  have b := tb 100 (by simp)
  have c := tb 124 (by simp)
  have e : s₁.heap.get? cStatics = some ⟨.none, none, .dict #[] 0, #[]⟩ := X 2 _ (by kernel_rfl!)
  have hT := hx_tabs X a b c
  have X' : (kfr w.params).In (g3 s₁.heap) := ghost_K hT X (by kernel_rfl!)
  have T' := ghost_top hT T
  refine law_in ⟨X', T', #[], b, .inl rfl⟩ ⟨rfl, by decide +kernel, by decide +kernel⟩ hl hi (by rw [ints_len' hi]; lia) a b c (let ⟨o, eo⟩ := d; ⟨o, g3_ne eo (by decide) (by decide) (by decide)⟩) (g3_ne e (by decide) (by decide) (by decide)) ?_
  intro h' tk' p23 p100 p124 k e23 e100 e124
  exact ⟨.inl ⟨_, .bool true, [], rfl, hr, .bool true, hpost, fun _ => ⟨List.nodup_nil, fun a ha => by cases ha⟩⟩, oldK_of hT k e23 e100 e124, rfl, .of_eq hg⟩
end Mine
end
section
open PySem PySem.W PySem.W.X PySem.Calls PyProof.Rows
set_option Elab.async false
set_option maxRecDepth 100000
set_option maxHeartbeats 80000000
namespace Mine
@[reducible] def RR : OpenRow := PySem.Challenge.rw_oc0074_01.row
noncomputable def kas : List Addr := nat_lit 2 :: nat_lit 3 :: nat_lit 6 :: nat_lit 15 :: nat_lit 17 :: nat_lit 18 :: nat_lit 20 :: nat_lit 21 :: nat_lit 22 :: nat_lit 24 :: nat_lit 25 :: nat_lit 27 :: nat_lit 28 :: nat_lit 29 :: nat_lit 30 :: nat_lit 31 :: nat_lit 33 :: nat_lit 34 :: nat_lit 36 :: nat_lit 37 :: nat_lit 38 :: nat_lit 40 :: nat_lit 41 :: nat_lit 43 :: nat_lit 44 :: nat_lit 45 :: nat_lit 47 :: nat_lit 48 :: nat_lit 50 :: nat_lit 51 :: nat_lit 52 :: nat_lit 53 :: nat_lit 54 :: nat_lit 55 :: nat_lit 56 :: nat_lit 57 :: nat_lit 58 :: nat_lit 59 :: nat_lit 60 :: nat_lit 61 :: nat_lit 62 :: nat_lit 63 :: nat_lit 64 :: nat_lit 65 :: nat_lit 66 :: nat_lit 67 :: nat_lit 68 :: nat_lit 69 :: nat_lit 70 :: nat_lit 71 :: nat_lit 72 :: nat_lit 73 :: nat_lit 74 :: nat_lit 75 :: nat_lit 76 :: nat_lit 77 :: nat_lit 78 :: nat_lit 79 :: nat_lit 80 :: nat_lit 81 :: nat_lit 82 :: nat_lit 83 :: nat_lit 84 :: nat_lit 85 :: nat_lit 87 :: nat_lit 88 :: nat_lit 90 :: nat_lit 91 :: nat_lit 92 :: nat_lit 94 :: nat_lit 95 :: nat_lit 97 :: nat_lit 98 :: nat_lit 99 :: nat_lit 102 :: nat_lit 103 :: nat_lit 104 :: nat_lit 106 :: nat_lit 107 :: nat_lit 109 :: nat_lit 110 :: nat_lit 111 :: nat_lit 113 :: nat_lit 114 :: nat_lit 116 :: nat_lit 117 :: nat_lit 118 :: nat_lit 121 :: nat_lit 122 :: nat_lit 123 :: nat_lit 126 :: nat_lit 127 :: []
theorem kas_ok : ∀ P, kas = (kfr P).map (·.1) := fun _ => by kernel_rfl
noncomputable abbrev kh : Hook := kmHook kfr kas kas_ok [100, 23, 124]
noncomputable def LSs : List Str := ["__name__", "three_way_cmp", "cmp_to_key", "_initial_missing", "reduce", "S_IMODE", "S_IFMT", "S_IFDIR", "S_IFCHR", "S_IFBLK", "S_IFREG", "S_IFIFO", "S_IFLNK", "S_IFSOCK", "S_ISUID", "S_ISGID", "S_ISVTX", "S_IRUSR", "S_IWUSR", "S_IXUSR", "S_IRGRP", "S_IWGRP", "S_IXGRP", "S_IROTH", "S_IWOTH", "S_IXOTH", "_filemode_table", "filemode", "_law_things", "_law_turn", "_law_signs", "_law_own", "_law_wishes"].map Str.ofString
/-- of the program the view holds the law alone -/
noncomputable def VQ : Program := view PR [36]
noncomputable def xt (s : Shared) : Bool := xlAt VQ [] s && recOk (RowW.records (OpenRow.toRowW RR)) s
theorem lft : LeftO PR VQ LSs xt (Hook.obs kh) (Hook.val kh) 1646 := by
  intro w
  kernel_rfl
theorem saidL : PySem.Challenge.rw_oc0074_01.wellSaid = true := by
  repeat' (first | (with_reducible refine look_both ?_ ?_) | (delta OpenLaw.wellSaid; dsimp only) | (delta OpenRow.wellSaid; dsimp only) | (delta OpenRow.partSaid; dsimp only) | (delta OpenScript.wellSaid; dsimp only) | (delta looksOpen; dsimp only))
  all_goals kernel_rfl
theorem pw1 : (OpenRow.toRowW RR).promised := by w_witness2
theorem hdN (h : ∃ d kwd, PySem.W.defOf VQ RR.name = some (d, kwd) ∧ PR.theDef RR.name = some (d.params, d.body, d.scope) ∧ kwWritten? d.params.kwonlyargs d.params.kw_defaults = some kwd ∧ WalkO VQ LSs (XL VQ []) (Hook.says (kmHook kfr kas kas_ok [100, 23, 124])) (OpenRow.toRowW RR) d kwd fun f vs => PySem.call f vs) : PySem.Challenge.rw_oc0074_01.Holds := by
  obtain ⟨d, kwd, h1, h2, h3, W⟩ := h
  exact holds_law saidL fun said => holds_open (Xt := xt) lft (Hook.of kh) (Hook.keeps kh) (fun s e => xl_of s (Bool.and_eq_true_iff.mp e).1) XL.keeps h1 h2 h3 (fun s e => recFacts_of (Bool.and_eq_true_iff.mp e).2) (by rfl) said (by decide +kernel) ⟨rfl, rfl, rfl, rfl, rfl, by decide +kernel⟩ pw1 W
end Mine
end
open PySem PySem.W PySem.W.X PySem.Calls PyProof.Rows
set_option Elab.async false
set_option maxRecDepth 100000
set_option maxHeartbeats 8000000
theorem PySem.Challenge.cw_oc0074_01_holds : PySem.Challenge.rw_oc0074_01.Holds := by
  refine Mine.hdN ⟨_, _, rfl, rfl, rfl, ?_⟩
  k_fill
  intro w s₀ s₁ mg mb G Y fa o pm cd doc dV kV ho hd hcd hD hmg hg args vals as hpre hlay hrd hwl hlo
  have KX := km_in_of Y
  have KT := km_tabs_of Y
  refine Ground.open G ?_
  intro T B D E TW
  wrow_args hpre hlay hrd hwl hlo
  x_fa T KX hmg
  all_lens
  rename_i hcond _ _ _ hints _
  have KS : ∃ o, s₁.heap.get? sysModules = some o := by
    obtain ⟨mm, ⟨o, _, _, e, _⟩, _⟩ := (T.seer (by kernel_rfl!)).mods
    exact ⟨o, e⟩
  refine Mine.law_end KX KT KS T hg (by assumption) hints (by assumption) (raisesW_false ?_) ?_
  · wrow_none_raised
  · wrow_post
