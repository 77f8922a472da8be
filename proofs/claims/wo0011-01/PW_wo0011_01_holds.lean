import PyProof.Rows.All
import Wide.All
import OpenK.AllK
import Wide.FinOn
import PySem.Challenge.RW_wo0011_01
set_option Elab.async false
set_option maxRecDepth 100000
set_option linter.all false
section
open PySem PySem.W PyProof.Rows
namespace Mine

structure Fns where
  ie : (String → Option Builtin) → Program → World → Nat → Shared → Thread → Option Shared
  fm : Program → Shared → Option Shared
  st : Program → Shared × Thread
  tb : String → Option Builtin
  p : Program
  sg : (String → Option Builtin) → Program → World → Nat → Option Value → Nat → Nat → SharedT → Thread → Option (SharedT × Thread)
  sr : (String → Option Builtin) → Program → World → Nat → Option Value → Nat → Nat → SharedT → Thread → Option (Flow × SharedT × Code × Pos)
  tg : (String → Option Builtin) → Program → World → Nat → Option Value → Nat → Shared → Thread → Option (Shared × Thread)
  tr : (String → Option Builtin) → Program → World → Nat → Option Value → Nat → Shared → Thread → Option Shared
  dn : (String → Option Builtin) → Code → Sem Fin
  sr' : (String → Option Builtin) → Program → World → Nat → Option Value → Nat → Nat → Shared → Thread → Option (Flow × Shared × Code × Pos)
@[irreducible] noncomputable def F0 : Fns := ⟨importEnds, fenceModules?, start, treeTable, Challenge.pw_wo0011_01, segGoT, segRunT, topGo, topRun, denote, segRun⟩
theorem F0_eq : F0 = ⟨Fast.tw10274390034422433532, Fast.tw14289696077712309145, Fast.tw1435165496053646825, Fast.tw14364793385576792824, Challenge.pw_wo0011_01, Fast.tw10295753902157049106, Fast.tw10110043849684766642, Fast.tw15667345088766844465, Fast.tw14082659384304107361, Fast.tw11892475500146522536, Fast.tw14374325043358763698⟩ := by
  unfold F0
  rw [Fast.te10274390034422433532, Fast.te14289696077712309145, Fast.te1435165496053646825, Fast.te14364793385576792824, Fast.te10295753902157049106, Fast.te10110043849684766642, Fast.te15667345088766844465, Fast.te14082659384304107361, Fast.te11892475500146522536, Fast.te14374325043358763698]
noncomputable def wK (P : Params) : World := ⟨fun _ _ => 0, { P with followText := fun _ => false }⟩
noncomputable def bt (f : Nat → Option Obj) : Nat → Nat → Nat → BT
  | 0, _, _ => .nil
  | n + 1, a, b => match f b with
    | some o => .node o (bt f n (2 * a) (a + b)) (bt f n (2 * a) (2 * a + b))
    | none => .nil
section
variable (F : Fns) (k : World)
@[irreducible] noncomputable def opn (w : World) : Option Shared := (F.ie F.tb (opening F.p) w 40000 (F.st (opening F.p)).1 (F.st (opening F.p)).2).bind (F.fm F.p)
@[irreducible] noncomputable def objs0 : List Obj := match opn F k with
  | some s => s.heap.objs.toList
  | none => []
@[irreducible] noncomputable def T0 : BT := bt (fun i => (objs0 F k)[i]?) 6 1 0
@[irreducible] noncomputable def S0 : SharedT := ⟨T0 F k, 28, {}, #[], {}, 276, {}⟩
@[irreducible] noncomputable def envT : Env := { scope := F.p.main.scope, locals := mainNs, globals := mainNs, cells := [], code := .ref 30, frame := some 31 }
@[irreducible] noncomputable def cT : Code := .body (behindTheImports F.p) (envT F)
noncomputable abbrev B0 : List Frame := [topFrame ⟨0, 0, 0, 0⟩]
@[irreducible] noncomputable def sts (a n : Nat) : List Stmt := ((behindTheImports F.p).drop a).take n
@[irreducible] noncomputable def pcs (a n : Nat) (q : Pos) : Thread := piecesOf (sts F a n) (envT F) (cT F) q B0
@[irreducible] noncomputable def run (w : World) (n : Nat) (S : SharedT) (t : Thread) := F.sr F.tb F.p w 28 (some (.ref 6)) 1 n S t
@[irreducible] noncomputable def gon (w : World) (n : Nat) (S : SharedT) (t : Thread) := F.sg F.tb F.p w 28 (some (.ref 6)) 1 n S t
noncomputable def bad : SharedT := ⟨.nil, 0, {}, #[], {}, 0, {}⟩
noncomputable def wo (S : SharedT) (os : OsState) : SharedT := { S with os := os }
noncomputable def stR : Option (Flow × SharedT × Code × Pos) → SharedT
  | some (_, s, _, _) => s
  | none => bad
noncomputable def stG : Option (SharedT × Thread) → SharedT
  | some (s, _) => s
  | none => bad
noncomputable def kG : Option (SharedT × Thread) → Result → Sem Fin
  | some (_, ⟨_, _, _, .ret k _ _ _ _ _ _ :: _⟩) => k
  | _ => fun _ => .unsupported ""
@[irreducible] noncomputable def Sa : SharedT := stG (gon F k 12 (S0 F k) (topStub F.p))
/-- the state after the first four statements, written out above the state after the fenced opening -/
noncomputable def hCode (nm : String) (a : Nat) (b : Bool) (xs : List Int) (rs : List Nat) (t : Nat) : List Value :=
  [.str nm a, .str nm (a + 1), .str "/claim/cut.py" (a + 2)] ++ xs.map (fun x => .int x 0) ++ [.ref (rs.getD 0 0), .bool b, .int 276 0, .ref (rs.getD 1 0), .none] ++
    (match rs.drop 2 with | [] => [.none, .none, .none] | l => l.map .ref) ++ [.int t 0, .int (xs.getD 0 0) 0, .str "/claim/cut.py" (t + 1)]
noncomputable def hFields (vs : List Value) (c : Value := .none) : Obj := { cls := c, data := .fields vs.toArray }
noncomputable def hTuple (vs : List Value) : Obj := { cls := .type "tuple", data := .seq vs.toArray }
noncomputable def hRaw : FuncData := match F.p.main.body[(3 : Nat)]? with
  | some (.FunctionDef nm args body _ _ _ scope _ _ _) => { name := nm, qualname := nm, params := args, body := .stmts body, scope := scope, globals := 0, closure := [], defaults := .none, kwdefaults := .none }
  | _ => default
noncomputable def hSre : List Int := [14, 8, 1, 3, 3, 1, 1, 61, 0, 16, 61, 24, 16, 2, 2, 13, 11, 9, 0, 67043328, 126, 126, 0, 0, 0, 0, 0, 1, 1]
noncomputable def hNew : List Obj := [hTuple [], hFields [.int 4 0, .int 0 0, .ref 37], hFields (hCode "<module>" 277 false [1, 0, 0, 0, 0] [28, 29] 280) (.type "code"),
  { cls := .type "frame", slots := #[some (.ref 30), some (.ref 3), some (.ref 3), none, some (.str "__main__" 164), none, some (.ref 0)] },
  hTuple [], hFields [], hTuple [.str "s" 289, .str "parts" 290], hTuple [], { cls := .none, data := .func (hRaw F) },
  hFields (hCode "decode_rfc2231" 286 true [4, 1, 0, 0, 3] [32, 33, 34, 35, 36] 291) (.type "code"),
  { cls := .type "function", data := .func { hRaw F with globals := 3, pyModule := .str "cpy313.email.utils" 282, code := .ref 37 } },
  { cls := .type "list", data := .seq ((hSre.zipIdx).map fun x => .int x.1 (297 + x.2)).toArray }, { cls := .type "dict", data := .dict #[] }, hTuple [.none],
  hTuple (hSre.map fun x => .int x 0), hFields [.str "=[a-fA-F0-9]{2}" 295, .int 256 327, .int 0 0, .none, .none, .ref 42, .int 0 0] (.type "re.Pattern")]
noncomputable def hPut (n : String) (a : Nat) (v : Value) : Obj → Obj := Obj.putName n (PyData.keyHash k.params n) (.str n a) v
@[irreducible] noncomputable def S4 : SharedT :=
  ⟨(hNew F).zipIdx.foldl (fun t x => t.ins (28 + x.2) x.1) ((T0 F k).set 3 fun o => hPut k "_twin_re_1" 328 (.ref 43) (hPut k "decode_rfc2231" 293 (.ref 38) (hPut k "TICK" 285 (.str "'" 284) (hPut k "__name__" 165 (.str "cpy313.email.utils" 282) o)))),
    44, {}, #[], {}, 329, {}⟩
end
end Mine
end
section
open PySem PySem.W PyProof.Rows
namespace Mine
noncomputable def hexc (n : Nat) : Nat := if n < 10 then 48 + n else 55 + n
noncomputable def hexItem (i : Nat) : Value := .str ⟨#[61, hexc (i / 16), hexc (i % 16)]⟩ (335 + 4 * i)
noncomputable def oFields (c : String) (vs : List Value) : Obj := { cls := .type c, data := .fields vs.toArray }
noncomputable def oList (vs : List Value) (n : Nat) : Obj := { cls := .type "list", data := .seq vs.toArray n }
noncomputable def oDict (es : List DictEntry) (n : Nat) : Obj := { cls := .type "dict", data := .dict es.toArray n }
@[irreducible] noncomputable def mapItems : List Value := (List.range 256).map hexItem
noncomputable def bytesB : List Nat := [45, 33, 42, 43, 47, 97, 98, 99, 100, 101, 102, 103, 104, 105, 106, 107, 108, 109, 110, 111, 112, 113, 114, 115, 116, 117, 118, 119, 120, 121, 122, 65, 66, 67, 68, 69, 70, 71, 72, 73, 74, 75, 76, 77, 78, 79, 80, 81, 82, 83, 84, 85, 86, 87, 88, 89, 90, 48, 49, 50, 51, 52, 53, 54, 55, 56, 57]
noncomputable def bytesC : List Nat := [32, 33, 34, 35, 36, 37, 38, 39, 40, 41, 42, 43, 44, 45, 46, 47, 48, 49, 50, 51, 52, 53, 54, 55, 56, 57, 58, 59, 60, 62, 63, 64, 65, 66, 67, 68, 69, 70, 71, 72, 73, 74, 75, 76, 77, 78, 79, 80, 81, 82, 83, 84, 85, 86, 87, 88, 89, 90, 91, 92, 93, 94, 95, 96, 97, 98, 99, 100, 101, 102, 103, 104, 105, 106, 107, 108, 109, 110, 111, 112, 113, 114, 115, 116, 117, 118, 119, 120, 121, 122, 123, 124, 125, 126, 9]
noncomputable def asBytes (l : List Nat) : Array UInt8 := (l.map Nat.toUInt8).toArray
noncomputable def putAll (tk : Nat) : Nat → List Nat → List Value → List Value
  | _, [], xs => xs
  | i, b :: r, xs => putAll tk (i + 1) r (xs.set b (.str ⟨#[b]⟩ (tk + 3 * i)))
@[irreducible] noncomputable def listB : List Value := putAll 1378 0 bytesB mapItems
@[irreducible] noncomputable def listC : List Value := putAll 1583 0 bytesC mapItems
noncomputable def headItems : List Value := listB.set 32 (.str ⟨#[95]⟩ 1577)
noncomputable def hStop (a : Nat) : Obj := oFields "StopIteration" [.ref a, .none, .none, .none, .bool false, .none]
noncomputable def hAll : Obj := oFields "slice" [.none, .none, .none]
section
variable (F : Fns) (k : World)
@[irreducible] noncomputable def compE : Expr := match sts F 4 1 with
  | [.Assign _ v _] => v
  | _ => .Constant .none 0 ⟨0, 0, 0, 0⟩
noncomputable def compScope : Expr → Scope
  | .ListComp _ _ s _ => s
  | _ => { kind := .function, names := [], isGenerator := false, isCoroutine := false }
@[irreducible] noncomputable def compC : Code := .compLoop (compE F) 0 (.ref 45) (.ref 46) { scope := compScope (compE F), locals := 47, globals := 3, cells := [], qual := Str.empty, func := none, code := .ref 30, frame := some 31, builtins := 0 }
@[irreducible] noncomputable def SCs (it : Int) (items : List Value) (n : Nat) (fr : List DictEntry) (m : Nat) (tk : Nat) : SharedT :=
  let s := S4 F k
  ⟨(((s.tree.ins 44 (oFields "range" [.int 0 330, .int 256 329, .int 1 331])).ins 45 (oFields "range_iterator" [.int it 0, .int (256 - it) 0, .int 1 0])).ins 46 (oList items n)).ins 47 (oDict fr m), 48, s.life, s.gens, s.drawn, tk, s.os⟩
@[irreducible] noncomputable def SC0 : SharedT := SCs F k 0 [] 0 [] 0 332
@[irreducible] noncomputable def SC1 : SharedT := SCs F k 256 mapItems 256 [⟨PyData.keyHash k.params "c", .str "c" 333, .int 255 1352⟩] 1 1356
/-- after i turns -/
@[irreducible] noncomputable def SCm (i : Nat) : SharedT := SCs F k i (mapItems.take i) i [⟨PyData.keyHash k.params "c", .str "c" 333, .int (i - 1 : Nat) (328 + 4 * i)⟩] 1 (332 + 4 * i)
@[irreducible] noncomputable def compT (K : Result → Sem Fin) (q : Pos) : Thread := ⟨F.dn F.tb (compC F), compC F, q, .ret K none true [.ref 47, .ref 46] (cT F) ⟨10, 36, 10, 46⟩ [] :: B0⟩
@[irreducible] noncomputable def kA (w : World) (n : Nat) (os : OsState) : Result → Sem Fin := kG (gon F w n (wo (S4 F k) os) (pcs F 4 1 ⟨9, 0, 9, 10⟩))
@[irreducible] noncomputable def S5 : SharedT :=
  let s := SC1 F k
  ⟨(((s.tree.set 47 fun _ => oDict [] 2).set 3 (hPut k "_QUOPRI_MAP" 1356 (.ref 46))).ins 48 (hTuple [])).ins 49 (hStop 48), 50, s.life, s.gens, s.drawn, 1357, s.os⟩
@[irreducible] noncomputable def S12 : SharedT :=
  let s := S5 F k
  ⟨((((s.tree.ins 50 hAll).ins 51 (oList mapItems 0)).ins 52 hAll).ins 53 (oList mapItems 0)).set 3 fun o =>
      hPut k "__name__" 165 (.str "cpy313.email.quoprimime" 1367) (hPut k "digits" 1366 (.str "0123456789" 1365) (hPut k "ascii_letters" 1364 (.str "abcdefghijklmnopqrstuvwxyzABCDEFGHIJKLMNOPQRSTUVWXYZ" 1363)
        (hPut k "ascii_uppercase" 1362 (.str "ABCDEFGHIJKLMNOPQRSTUVWXYZ" 1361) (hPut k "ascii_lowercase" 1360 (.str "abcdefghijklmnopqrstuvwxyz" 1359) (hPut k "_QUOPRI_BODY_MAP" 1358 (.ref 53) (hPut k "_QUOPRI_HEADER_MAP" 1357 (.ref 51) o)))))),
    54, s.life, s.gens, s.drawn, 1369, s.os⟩
@[irreducible] noncomputable def forC (i it : Nat) : Code := match sts F i 1 with
  | [.For t _ b o _] => .forLoop t (.ref it) b o (envT F)
  | _ => .block [] (envT F)
@[irreducible] noncomputable def forT (i it : Nat) (K : Result → Sem Fin) (q0 q : Pos) : Thread := ⟨F.dn F.tb (forC F i it), forC F i it, q, .ret K none false [] (cT F) q0 [] :: B0⟩
@[irreducible] noncomputable def SB0 : SharedT :=
  let s := S12 F k
  ⟨s.tree.ins 54 (oFields "bytes_iterator" [.bytes (asBytes bytesB) 1375, .int 0 0]), 55, s.life, s.gens, s.drawn, 1376, s.os⟩
@[irreducible] noncomputable def SB1 : SharedT :=
  let s := S12 F k
  ⟨((s.tree.ins 54 (oFields "bytes_iterator" [.bytes (asBytes bytesB) 1375, .int 67 0])).set 51 (fun _ => oList listB 0)).set 3 (Obj.putName "c" (PyData.keyHash k.params "c") (.str "c" 1377) (.int 57 1574)), 55, s.life, s.gens, s.drawn, 1577, s.os⟩
@[irreducible] noncomputable def kB (w : World) (os : OsState) : Result → Sem Fin := kG (gon F w 44 (wo (S12 F k) os) (pcs F 12 1 ⟨17, 0, 17, 8⟩))
@[irreducible] noncomputable def S14 : SharedT :=
  let s := SB1 F k
  ⟨((s.tree.set 54 fun _ => oFields "bytes_iterator" [.none, .int 67 0]).ins 55 (hTuple [])).ins 56 (hStop 55), 57, s.life, s.gens, s.drawn, 1577, s.os⟩
@[irreducible] noncomputable def S14' : SharedT :=
  let s := S14 F k
  ⟨s.tree.set 51 fun _ => oList headItems 0, 57, s.life, s.gens, s.drawn, 1580, s.os⟩
@[irreducible] noncomputable def SD0 : SharedT :=
  let s := S14' F k
  ⟨s.tree.ins 57 (oFields "bytes_iterator" [.bytes (asBytes bytesC) 1580, .int 0 0]), 58, s.life, s.gens, s.drawn, 1581, s.os⟩
@[irreducible] noncomputable def SD1 : SharedT :=
  let s := S14' F k
  ⟨((s.tree.ins 57 (oFields "bytes_iterator" [.bytes (asBytes bytesC) 1580, .int 95 0])).set 53 (fun _ => oList listC 0)).set 3 (Obj.putName "c" (PyData.keyHash k.params "c") (.str "c" 0) (.int 9 1863)), 58, s.life, s.gens, s.drawn, 1866, s.os⟩
@[irreducible] noncomputable def kD (w : World) (os : OsState) : Result → Sem Fin := kG (gon F w 10 (wo (S14' F k) os) (pcs F 14 1 ⟨20, 0, 20, 28⟩))
@[irreducible] noncomputable def S15 : SharedT :=
  let s := SD1 F k
  ⟨((s.tree.set 57 fun _ => oFields "bytes_iterator" [.none, .int 95 0]).ins 58 (hTuple [])).ins 59 (hStop 58), 60, s.life, s.gens, s.drawn, 1866, s.os⟩
@[irreducible] noncomputable def S38 : SharedT := stR (run F k 2000 (S15 F k) (pcs F 15 23 ⟨21, 9, 21, 110⟩))
end
end Mine
end
section
open PySem PySem.W PyProof.Rows
namespace Mine
@[irreducible] noncomputable def W1 (w : World) (a : Bool) : World := w.withFollow "special-get-raises" a
@[irreducible] noncomputable def W2 (w : World) (a b : Bool) : World := (w.withFollow "special-get-raises" a).withFollow "comprehension-iter-twice" b
@[irreducible] noncomputable def nA (b : Bool) : Nat := if b then 42 else 52
section
variable (F : Fns) (k W w : World) (os : OsState)
/-- the pieces whose steps hang on two of the world's rows -/
@[irreducible] noncomputable def lhsA (b : Bool) := (gon F W (nA b) (wo (S4 F k) os) (pcs F 4 1 ⟨9, 0, 9, 10⟩), run F W 100 (wo (SC1 F k) os) (compT F (kA F k W (nA b) os) ⟨10, 15, 10, 26⟩))
@[irreducible] noncomputable def rhsA (b : Bool) := (some (wo (SC0 F k) os, compT F (kA F k W (nA b) os) ⟨10, 36, 10, 46⟩), some (Flow.next, wo (S5 F k) os, cT F, (⟨10, 0, 10, 11⟩ : Pos)))
/-- on one row -/
@[irreducible] noncomputable def lhsB := (gon F W 44 (wo (S12 F k) os) (pcs F 12 1 ⟨17, 0, 17, 8⟩), run F W 100 (wo (SB1 F k) os) (forT F 12 54 (kB F k W os) ⟨18, 9, 18, 74⟩ ⟨19, 4, 19, 25⟩),
  gon F W 10 (wo (S14' F k) os) (pcs F 14 1 ⟨20, 0, 20, 28⟩), run F W 100 (wo (SD1 F k) os) (forT F 14 57 (kD F k W os) ⟨21, 9, 21, 110⟩ ⟨22, 4, 22, 23⟩),
  run F W 2000 (wo (S15 F k) os) (pcs F 15 23 ⟨21, 9, 21, 110⟩))
@[irreducible] noncomputable def rhsB := (some (wo (SB0 F k) os, forT F 12 54 (kB F k W os) ⟨18, 9, 18, 74⟩ ⟨18, 9, 18, 74⟩), some (Flow.next, wo (S14 F k) os, cT F, (⟨18, 9, 18, 74⟩ : Pos)),
  some (wo (SD0 F k) os, forT F 14 57 (kD F k W os) ⟨21, 9, 21, 110⟩ ⟨21, 9, 21, 110⟩), some (Flow.next, wo (S15 F k) os, cT F, (⟨21, 9, 21, 110⟩ : Pos)),
  some (Flow.next, wo (S38 F k) os, cT F, (⟨139, 0, 189, 105⟩ : Pos)))
/-- on none -/
@[irreducible] noncomputable def lhsC := ((opn F w).map (fun s => (s.heap, s.gens, s.drawn, s.toks)),
  F.tg F.tb F.p w 28 (some (.ref 6)) 12 (wo (S0 F k) os).abs (topStub F.p),
  F.sr' F.tb F.p w 28 (some (.ref 6)) 1 1 (wo (Sa F k) os).abs (blockOf (behindTheImports F.p) (envT F) (cT F) ⟨0, 0, 0, 0⟩ B0),
  run F w 200 (wo (Sa F k) os) (pcs F 0 4 ⟨0, 0, 0, 0⟩), run F w 400 (wo (S5 F k) os) (pcs F 5 7 ⟨10, 0, 10, 11⟩), run F w 100 (wo (S14 F k) os) (pcs F 13 1 ⟨18, 9, 18, 74⟩),
  F.tr F.tb F.p w 28 (some (.ref 6)) 2 (wo (S38 F k) os).abs ⟨doneF .next, cT F, ⟨139, 0, 189, 105⟩, B0⟩)
@[irreducible] noncomputable def rhsC := (some (absHeap (T0 F k) 28 {}, (#[] : Array GenState), ({} : Drawn), 276),
  some ((wo (Sa F k) os).abs, (⟨F.dn F.tb (cT F), cT F, ⟨0, 0, 0, 0⟩, B0⟩ : Thread)),
  some (Flow.next, (wo (Sa F k) os).abs, cT F, (⟨0, 0, 0, 0⟩ : Pos)),
  some (Flow.next, wo (S4 F k) os, cT F, (⟨9, 0, 9, 10⟩ : Pos)), some (Flow.next, wo (S12 F k) os, cT F, (⟨17, 0, 17, 8⟩ : Pos)), some (Flow.next, wo (S14' F k) os, cT F, (⟨20, 0, 20, 28⟩ : Pos)),
  some (wo (S38 F k) os).abs)
end
theorem loopA_1 (w : World) (os : OsState) (K : Result → Sem Fin) : gon F0 w 4736 (wo (SC0 F0 (wK w.params)) os) (compT F0 K ⟨10, 36, 10, 46⟩) = some (wo (SCm F0 (wK w.params) 128) os, compT F0 K ⟨10, 15, 10, 26⟩) := by
  rw [F0_eq]
  kernel_rfl
theorem loopA_2 (w : World) (os : OsState) (K : Result → Sem Fin) : gon F0 w 4736 (wo (SCm F0 (wK w.params) 128) os) (compT F0 K ⟨10, 15, 10, 26⟩) = some (wo (SC1 F0 (wK w.params)) os, compT F0 K ⟨10, 15, 10, 26⟩) := by
  rw [F0_eq]
  kernel_rfl
theorem loopB_is (w : World) (os : OsState) (K : Result → Sem Fin) : gon F0 w 3015 (wo (SB0 F0 (wK w.params)) os) (forT F0 12 54 K ⟨18, 9, 18, 74⟩ ⟨18, 9, 18, 74⟩) = some (wo (SB1 F0 (wK w.params)) os, forT F0 12 54 K ⟨18, 9, 18, 74⟩ ⟨19, 4, 19, 25⟩) := by
  rw [F0_eq]
  kernel_rfl
theorem loopC_is (w : World) (os : OsState) (K : Result → Sem Fin) : gon F0 w 4275 (wo (SD0 F0 (wK w.params)) os) (forT F0 14 57 K ⟨21, 9, 21, 110⟩ ⟨21, 9, 21, 110⟩) = some (wo (SD1 F0 (wK w.params)) os, forT F0 14 57 K ⟨21, 9, 21, 110⟩ ⟨22, 4, 22, 23⟩) := by
  rw [F0_eq]
  kernel_rfl
theorem cheapC_is (w : World) (os : OsState) : lhsC F0 (wK w.params) w os = rhsC F0 (wK w.params) os := by
  rw [F0_eq]
  kernel_rfl
theorem cheapA_is (w : World) (os : OsState) :
    (lhsA F0 (wK w.params) (W2 w true true) os true, lhsA F0 (wK w.params) (W2 w true false) os false, lhsA F0 (wK w.params) (W2 w false true) os true, lhsA F0 (wK w.params) (W2 w false false) os false) =
    (rhsA F0 (wK w.params) (W2 w true true) os true, rhsA F0 (wK w.params) (W2 w true false) os false, rhsA F0 (wK w.params) (W2 w false true) os true, rhsA F0 (wK w.params) (W2 w false false) os false) := by
  rw [F0_eq]
  kernel_rfl
theorem cheapB_t (w : World) (os : OsState) : lhsB F0 (wK w.params) (W1 w true) os = rhsB F0 (wK w.params) (W1 w true) os := by
  rw [F0_eq]
  kernel_rfl
theorem cheapB_f (w : World) (os : OsState) : lhsB F0 (wK w.params) (W1 w false) os = rhsB F0 (wK w.params) (W1 w false) os := by
  rw [F0_eq]
  kernel_rfl
end Mine
end
section
open PySem PySem.W PyProof.Rows
namespace Mine
noncomputable def fnTab : List (Str × Nat × Nat) := [("decode_rfc2231", 3, 38), ("unquote", 16, 66), ("quote", 17, 73), ("header_encode", 18, 81), ("_unquote_match", 22, 93), ("header_decode", 23, 100), ("parse_keqv_list", 25, 107),
  ("_law_cell", 27, 114), ("_law_order", 28, 121), ("_law_figures", 29, 128), ("_law_written", 30, 135), ("_law_rows", 31, 140), ("_law_four", 32, 147), ("_law_first", 33, 154), ("_law_office", 34, 159), ("_law_mates", 35, 164),
  ("_law_refused", 36, 171), ("_law_pairings", 37, 176), ("law", 38, 181)]
noncomputable def pmOf (i : Nat) : Value := if i < 12 then .str "cpy313.email.utils" 282 else if i < 24 then .str "cpy313.email.quoprimime" 1367 else if i < 26 then .str "cpy313.urllib.request" 1913 else .str "law_wo0011_01" 1926
noncomputable def fnData (p : Program) (i a : Nat) : FuncData := match p.main.body[i]? with
  | some (.FunctionDef nm args body _ _ _ scope _ _ _) => { name := nm, qualname := nm, params := args, body := .stmts body, scope := scope, globals := 3, closure := [], defaults := if i = 18 then .ref 74 else .none, kwdefaults := .none, doc := .none, pyModule := pmOf i, annotations := none, code := .ref (a - 1), closureTuple := .none, builtins := 0 }
  | _ => default
noncomputable def fnObj (p : Program) (i a : Nat) : Obj := { cls := .type "function", data := .func (fnData p i a) }
noncomputable def codeOk (h : Heap) (a : Addr) (q : Str) : Bool := match h.get? a with
  | some ⟨_, _, .fields vs, _⟩ => (match vs.toList with
    | _ :: .str n _ :: _ => n == q
    | _ => false)
  | _ => false
noncomputable def sreCode : List Nat := [14, 8, 1, 3, 3, 1, 1, 61, 0, 16, 61, 24, 16, 2, 2, 13, 11, 9, 0, 67043328, 126, 126, 0, 0, 0, 0, 0, 1, 1]
noncomputable def datTab : List (Str × Value) := [("TICK", .str "'" 284), ("_twin_re_1", .ref 43), ("_QUOPRI_MAP", .ref 46), ("_QUOPRI_HEADER_MAP", .ref 51)]
noncomputable def objTab : List (Addr × Obj) := [(46, oList mapItems 256), (51, oList headItems 0), (42, { cls := .type "tuple", data := .seq (sreCode.map fun (n : Nat) => rawInt n).toArray }),
  (43, oFields "re.Pattern" [.str "=[a-fA-F0-9]{2}" 295, .int 256 327, .int 0 0, .none, .none, .ref 42, .int 0 0]), (74, { cls := .type "tuple", data := .seq #[.str "iso-8859-1" 1880] })]
noncomputable abbrev Seen3 := Bool × List (Option Value × Option Obj × Bool) × List (Option Value) × List (Option Obj)
noncomputable def Yf (s : Shared) : Seen3 := (s.heap.isNs mainGlobals, fnTab.map (fun e => (s.heap.nsMap mainGlobals e.1, s.heap.get? e.2.2, codeOk s.heap (e.2.2 - 1) e.1)), datTab.map (fun e => s.heap.nsMap mainGlobals e.1), objTab.map fun e => s.heap.get? e.1)
noncomputable def Ya (p : Program) (_ : World) : Seen3 := (true, fnTab.map (fun e => (some (.ref e.2.2), some (fnObj p e.2.1 e.2.2), true)), datTab.map (fun e => some e.2), objTab.map fun e => some e.2)
noncomputable def qv (p : Program) : Program := view p [0, 38]
noncomputable def looseN : List Str := ["TICK", "decode_rfc2231", "_twin_re_1", "_QUOPRI_MAP", "_QUOPRI_HEADER_MAP", "_QUOPRI_BODY_MAP", "ascii_lowercase", "ascii_uppercase", "ascii_letters", "digits", "unquote", "quote", "header_encode", "_QUOPRI_BODY_ENCODE_MAP", "_unquote_match", "header_decode", "parse_keqv_list",
  "_law_cell", "_law_order", "_law_figures", "_law_written", "_law_rows", "_law_four", "_law_first", "_law_office", "_law_mates", "_law_refused", "_law_pairings"]
@[irreducible] noncomputable def H0 (P : Params) : Heap := absHeap (T0 F0 (wK P)) 28 {}
@[irreducible] noncomputable def H1 (P : Params) : Heap := absHeap (S38 F0 (wK P)).tree 182 {}
section
variable (w : World) (os : OsState)
@[irreducible] noncomputable def lhsE := ((S38 F0 (wK w.params)).n, (S38 F0 (wK w.params)).life, (S38 F0 (wK w.params)).gens, (S38 F0 (wK w.params)).drawn, (S38 F0 (wK w.params)).toks)
@[irreducible] noncomputable def lhsS := ((H0 w.params).isNs mainGlobals && (#[] : Array GenState).size == 0, (H0 w.params).objs.size, (H0 w.params).nsMap mainGlobals "__annotations__")
@[irreducible] noncomputable def looks1 (p : Program) := staticsOk (importedModules p.main.body) (H0 w.params) (H1 w.params) && namesBound p (H1 w.params) && gensDone ⟨H1 w.params, #[], {}, 2017, os⟩ && laidKept (H0 w.params) (H1 w.params)
@[irreducible] noncomputable def looks2 (p : Program) := openSeen (qv p) looseN (importedModules p.main.body) (fun _ => true) true ⟨H1 w.params, #[], {}, 2017, os⟩
end
theorem looks_are (w : World) (os : OsState) : (lhsE w, lhsS w, looks1 w os Challenge.pw_wo0011_01, looks2 w os Challenge.pw_wo0011_01, Yf ⟨H1 w.params, #[], {}, 2017, os⟩) =
    ((182, {}, #[], {}, 2017), (true, 28, some (.ref 6)), true, openGood (qv Challenge.pw_wo0011_01) looseN, Ya Challenge.pw_wo0011_01 w) := by
  unfold looks1 looks2 lhsE lhsS H0 H1
  rw [F0_eq, Fast.te4187177175401517315, Fast.te5923862056798008813]
  kernel_rfl
end Mine
end
section
open PySem PySem.W PyProof.Rows
namespace Mine
noncomputable abbrev P0 : Program := Challenge.pw_wo0011_01
theorem w1_self (w : World) : W1 w (w.params.followText "special-get-raises") = w := by
  unfold W1
  exact World.withFollow_self w _
theorem w2_self (w : World) : W2 w (w.params.followText "special-get-raises") (w.params.followText "comprehension-iter-twice") = w := by
  unfold W2
  rw [World.withFollow_self, World.withFollow_self]
theorem factA (w : World) (os : OsState) : ∃ b, lhsA F0 (wK w.params) w os b = rhsA F0 (wK w.params) w os b := by
  have c := cheapA_is w os
  have c1 := congrArg (fun x => x.1) c
  have c2 := congrArg (fun x => x.2.1) c
  have c3 := congrArg (fun x => x.2.2.1) c
  have c4 := congrArg (fun x => x.2.2.2) c
  clear c
  dsimp only at c1 c2 c3 c4
  have e := w2_self w
  revert e
  generalize w.params.followText "special-get-raises" = a
  generalize w.params.followText "comprehension-iter-twice" = b
  intro e
  cases a <;> cases b
  · rw [e] at c4; exact ⟨false, c4⟩
  · rw [e] at c3; exact ⟨true, c3⟩
  · rw [e] at c2; exact ⟨false, c2⟩
  · rw [e] at c1; exact ⟨true, c1⟩
theorem factB (w : World) (os : OsState) : lhsB F0 (wK w.params) w os = rhsB F0 (wK w.params) w os := by
  have c5 := cheapB_t w os
  have c6 := cheapB_f w os
  have e := w1_self w
  revert e
  generalize w.params.followText "special-get-raises" = a
  intro e
  cases a
  · rw [e] at c6; exact c6
  · rw [e] at c5; exact c5
theorem factC (w : World) (os : OsState) : lhsC F0 (wK w.params) w os = rhsC F0 (wK w.params) os := cheapC_is w os
theorem run_eq (w : World) (n : Nat) (S : SharedT) (t : Thread) : run F0 w n S t = segRunT treeTable P0 w 28 (some (.ref 6)) 1 n S t := by unfold run F0; rfl
theorem gon_eq (w : World) (n : Nat) (S : SharedT) (t : Thread) : gon F0 w n S t = segGoT treeTable P0 w 28 (some (.ref 6)) 1 n S t := by unfold gon F0; rfl
theorem pcs_eq (a n : Nat) (q : Pos) : pcs F0 a n q = piecesOf (sts F0 a n) (envT F0) (cT F0) q [topFrame ⟨0, 0, 0, 0⟩] := by unfold pcs; rfl
theorem parts_are : behindTheImports P0 = sts F0 0 4 ++ (sts F0 4 1 ++ (sts F0 5 7 ++ (sts F0 12 1 ++ (sts F0 13 1 ++ (sts F0 14 1 ++ (sts F0 15 23 ++ [])))))) := by
  kernel_rfl
noncomputable def tot (b : Nat) : Nat := 12 + (1 + (200 + ((b + (4736 + (4736 + 100))) + (400 + ((44 + (3015 + 100)) + (100 + ((10 + (4275 + 100)) + (2000 + 2))))))))
theorem run_some (w : World) (os : OsState) : ∃ b : Bool, topRun treeTable P0 w 28 (some (.ref 6)) (tot (nA b)) (wo (S0 F0 (wK w.params)) os).abs (topStub P0) = some (wo (S38 F0 (wK w.params)) os).abs := by
  obtain ⟨b, hA⟩ := factA w os
  have hB := factB w os
  have hC := factC w os
  unfold lhsA rhsA at hA
  unfold lhsB rhsB at hB
  unfold lhsC rhsC at hC
  have a1 := congrArg (fun x => x.1) hA
  have a2 := congrArg (fun x => x.2) hA
  have b1 := congrArg (fun x => x.1) hB
  have b2 := congrArg (fun x => x.2.1) hB
  have b3 := congrArg (fun x => x.2.2.1) hB
  have b4 := congrArg (fun x => x.2.2.2.1) hB
  have b5 := congrArg (fun x => x.2.2.2.2) hB
  have c2 := congrArg (fun x => x.2.1) hC
  have c3 := congrArg (fun x => x.2.2.1) hC
  have c4 := congrArg (fun x => x.2.2.2.1) hC
  have c5 := congrArg (fun x => x.2.2.2.2.1) hC
  have c6 := congrArg (fun x => x.2.2.2.2.2.1) hC
  have c7 := congrArg (fun x => x.2.2.2.2.2.2) hC
  have lA := loopA_1 w os (kA F0 (wK w.params) w (nA b) os)
  have lA' := loopA_2 w os (kA F0 (wK w.params) w (nA b) os)
  have lB := loopB_is w os (kB F0 (wK w.params) w os)
  have lC := loopC_is w os (kD F0 (wK w.params) w os)
  clear hA hB hC
  dsimp only at a1 a2 b1 b2 b3 b4 b5 c2 c3 c4 c5 c6 c7
  have f1 : F0.tb = treeTable := by unfold F0; rfl
  have f2 : F0.p = P0 := by unfold F0; rfl
  have f3 : F0.tg = topGo := by unfold F0; rfl
  have f4 : F0.tr = topRun := by unfold F0; rfl
  have f5 : F0.dn = denote := by unfold F0; rfl
  have f6 : F0.sr' = segRun := by unfold F0; rfl
  rw [f1, f2, f3, f5] at c2
  rw [f1, f2, f6] at c3
  rw [f1, f2, f4] at c7
  rw [run_eq] at a2 b2 b4 b5 c4 c5 c6
  rw [gon_eq] at a1 b1 b3 lA lA' lB lC
  rw [pcs_eq] at a1 b1 b3 b5 c4 c5 c6
  refine ⟨b, ?_⟩
  have h7 := piece_app (segRun_of b5) (piece_nil c7)
  have h6 := piece_app (seg_go (segGo_of b3) (seg_go (segGo_of lC) (segRun_of b4))) h7
  have h5 := piece_app (segRun_of c6) h6
  have h4 := piece_app (seg_go (segGo_of b1) (seg_go (segGo_of lB) (segRun_of b2))) h5
  have h3 := piece_app (segRun_of c5) h4
  have h2 := piece_app (seg_go (segGo_of a1) (seg_go (segGo_of lA) (seg_go (segGo_of lA') (segRun_of a2)))) h3
  have h1 := piece_app (segRun_of c4) h2
  rw [← parts_are] at h1
  have h0 := piece_block c3 h1
  have hct : cT F0 = Code.body (behindTheImports P0) (envT F0) := by unfold cT; rw [f2]
  rw [← hct] at h0
  exact go_top c2 h0
theorem tot_le : ∀ b, tot (nA b) ≤ 20000 := by
  intro b
  unfold tot nA
  cases b <;> decide
theorem abs_of (S : SharedT) (os : OsState) (e1 : S.n = 182) (e2 : S.life = {}) (e3 : S.gens = #[]) (e4 : S.drawn = {}) (e5 : S.toks = 2017) : (wo S os).abs = ⟨absHeap S.tree 182 {}, #[], {}, 2017, os⟩ := by
  obtain ⟨t, n, l, g, d, k, o⟩ := S
  dsimp only at e1 e2 e3 e4 e5
  subst e1 e2 e3 e4 e5
  rfl
theorem run_is (w : World) (os : OsState) : topRun treeTable P0 w 28 (some (.ref 6)) 20000 ⟨H0 w.params, #[], {}, 276, os⟩ (topStub P0) = some ⟨H1 w.params, #[], {}, 2017, os⟩ := by
  obtain ⟨b, h⟩ := run_some w os
  have hE := congrArg (fun x => x.1) (looks_are w os)
  dsimp only at hE
  unfold lhsE at hE
  simp only [Prod.mk.injEq] at hE
  obtain ⟨e1, e2, e3, e4, e5⟩ := hE
  have last : (wo (S38 F0 (wK w.params)) os).abs = ⟨H1 w.params, #[], {}, 2017, os⟩ := by
    have e := abs_of _ os e1 e2 e3 e4 e5
    unfold H1
    exact e
  have first : (wo (S0 F0 (wK w.params)) os).abs = ⟨H0 w.params, #[], {}, 276, os⟩ := by
    unfold wo SharedT.abs H0 S0
    rfl
  rw [first, last] at h
  have := topRun_mono (20000 - tot (nA b)) _ _ _ _ h
  rwa [show tot (nA b) + (20000 - tot (nA b)) = 20000 by have := tot_le b; omega] at this
theorem open_is (w : World) : (fencedOpening treeTable P0 w 40000).map (fun s => (s.heap, s.gens, s.drawn, s.toks)) = some (H0 w.params, #[], {}, 276) := by
  have c := factC w {}
  unfold lhsC rhsC at c
  have c1 := congrArg (fun x => x.1) c
  clear c
  dsimp only at c1
  have e : opn F0 w = fencedOpening treeTable P0 w 40000 := by unfold opn F0 fencedOpening; kernel_rfl
  rw [e] at c1
  unfold H0
  exact c1
theorem size_fold (w : World) : lhsS w = (true, 28, some (.ref 6)) := by
  have c := congrArg (fun x => x.2) (looks_are w {})
  dsimp only at c
  have c' := congrArg Prod.fst c
  exact c'
theorem size_is (w : World) : ((H0 w.params).isNs mainGlobals && (#[] : Array GenState).size == 0, (H0 w.params).objs.size, (H0 w.params).nsMap mainGlobals "__annotations__") = (true, 28, some (.ref 6)) := by
  have c := size_fold w
  unfold lhsS at c
  exact c
theorem looks_is (w : World) (os : OsState) : ((staticsOk (importedModules P0.main.body) (H0 w.params) (H1 w.params) && namesBound P0 (H1 w.params) && gensDone ⟨H1 w.params, #[], {}, 2017, os⟩ && laidKept (H0 w.params) (H1 w.params)),
    openSeen (qv P0) looseN (importedModules P0.main.body) (fun _ => true) true ⟨H1 w.params, #[], {}, 2017, os⟩, Yf ⟨H1 w.params, #[], {}, 2017, os⟩) = (true, openGood (qv P0) looseN, Ya P0 w) := by
  have c := congrArg (fun x => x.2.2) (looks_are w os)
  dsimp only at c
  unfold looks1 looks2 at c
  exact c
theorem left_is : LeftO P0 (qv P0) looseN (fun _ => true) Yf (Ya P0) 40000 true :=
  LeftO.of_pieces (H₀ := H0) (H₁ := H1) (gs₀ := #[]) (gs₁ := #[]) (d₀ := {}) (d₁ := {}) (k₀ := 276) (k₁ := 2017) (m₀ := 28) (ann := some (.ref 6)) (M := 20000)
    open_is size_is run_is (by decide) fun w => funext fun os => looks_is w os
end Mine
end
section
open PySem PySem.W PyProof.Rows
namespace Mine
/-! a run never takes a token back -/
theorem runs_toks {M : Model} {Γ : Ctx} {p : Pos} {t : Sem Fin} {fs : List Frame} {s s' : Shared} {e : End} (h : Runs M Γ p t fs s e s') : s.toks ≤ s'.toks := by
  induction h with
  | done => exact Nat.le_refl _
  | raise => exact Nat.le_refl _
  | fresh _ ih => exact Nat.le_trans (Nat.le_succ _) ih
  | yield => exact Nat.le_refl _
  | call _ _ a b => exact Nat.le_trans a b
  | resumeFresh _ _ _ _ a b => exact Nat.le_trans a b
  | resumeSuspended _ _ _ _ a b => exact Nat.le_trans a b
  | segRet _ _ a b => exact Nat.le_trans a b
  | segGen _ _ a b => exact Nat.le_trans a b
  | segSuspGen _ _ _ _ a b => exact Nat.le_trans a b
  | _ => assumption
theorem wakes_toks {M : Model} {Γ : Ctx} {p : Pos} {g : Nat} {r : Resume} {s s' : Shared} {res : GenResult} (h : Wakes M Γ p g r s res s') : s.toks ≤ s'.toks := by
  unfold Wakes at h
  cases hg : s.gens[g]? with
  | none => simp only [hg] at h
  | some gs =>
    simp only [hg] at h
    cases gs with
    | fresh c =>
      cases r with
      | send v => cases v <;> first | (obtain ⟨_, rfl⟩ := h; exact Nat.le_refl _) | (obtain ⟨e₁, s₁, h₁, _, _, rfl⟩ := h; exact (runs_toks h₁ :))
      | throw x => obtain ⟨_, rfl⟩ := h; exact Nat.le_refl _
    | suspended => obtain ⟨e₁, s₁, h₁, _, _, rfl⟩ := h; exact (runs_toks h₁ :)
    | running => obtain ⟨_, rfl⟩ := h; exact Nat.le_refl _
    | finished => obtain ⟨_, rfl⟩ := h; exact Nat.le_refl _
open Sem in
theorem wp_toks {α : Type} {M : Model} {Γ : Ctx} {t : Sem α} : ∀ {Q : α → Pos → Shared → Prop} {E : Value → Pos → Shared → Prop} {p : Pos} {s : Shared}, wp M Γ t Q E p s → wp M Γ t (fun a p' s' => Q a p' s' ∧ s.toks ≤ s'.toks) (fun e p' s' => E e p' s' ∧ s.toks ≤ s'.toks) p s := by
  have lift : ∀ {t : Sem α} {Q : α → Pos → Shared → Prop} {E : Value → Pos → Shared → Prop} {p : Pos} {s s₀ : Shared}, s₀.toks ≤ s.toks → wp M Γ t (fun a p' s' => Q a p' s' ∧ s.toks ≤ s'.toks) (fun e p' s' => E e p' s' ∧ s.toks ≤ s'.toks) p s →
      wp M Γ t (fun a p' s' => Q a p' s' ∧ s₀.toks ≤ s'.toks) (fun e p' s' => E e p' s' ∧ s₀.toks ≤ s'.toks) p s := fun hle h =>
    Sem.wp_mono M Γ _ (fun _ _ _ q => ⟨q.1, Nat.le_trans hle q.2⟩) (fun _ _ _ q => ⟨q.1, Nat.le_trans hle q.2⟩) _ _ h
  induction t with
  | pure x => exact fun h => ⟨h, Nat.le_refl _⟩
  | raise v => exact fun h => ⟨h, Nat.le_refl _⟩
  | unsupported | finish | yield | fork | await | register => exact fun h => h
  | rule _ k ih | «at» _ k ih | loadIfAlive _ k ih | point _ k ih | ask k ih | handled _ k ih | stack k ih | thread k ih => exact fun h => ih _ h
  | alloc _ k ih | os _ _ k ih | newGen _ k ih => exact fun h => lift (Nat.le_refl _) (ih _ h)
  | fresh k ih => exact fun {_ _ _ s} h => lift (t := k s.toks) (s := { s with toks := s.toks + 1 }) (Nat.le_succ _) (ih _ h)
  | load a _ k ih | genState a k ih => exact fun ⟨o, ho, h⟩ => ⟨o, ho, ih _ h⟩
  | update a _ f k ih => exact fun ⟨ha, h⟩ => ⟨ha, lift (Nat.le_refl _) (ih _ h)⟩
  | choose _ _ k ih => exact fun ⟨ha, h⟩ => ⟨ha, lift (Nat.le_refl _) (ih _ h)⟩
  | call c h g l k ih => exact fun ⟨r, s', hr, h⟩ => ⟨r, s', hr, lift (runs_toks hr) (ih r h)⟩
  | resume g r l k ih => exact fun ⟨res, s', hw, h⟩ => ⟨res, s', hw, lift (wakes_toks hw) (ih _ h)⟩
theorem wpAny_mt {α : Type} {M : Model} {A : Around} {t : Sem α} {Q : α → Shared → Prop} {E : Value → Shared → Prop} {s : Shared} (h : wpAny M A t (fun a s' => s.toks ≤ s'.toks → Q a s') (fun e s' => s.toks ≤ s'.toks → E e s') s) : wpAny M A t Q E s :=
  fun Γ p hΓ => Sem.wp_mono M Γ _ (fun _ _ _ q => q.1 q.2) (fun _ _ _ q => q.1 q.2) _ _ (wp_toks (h Γ p hΓ))
theorem codeAny_mt {M : Model} {A : Around} {c : Code} {R : Result → Shared → Prop} {s : Shared} (h : codeAny M A c (fun r s' => s.toks ≤ s'.toks → R r s') s) : codeAny M A c R s :=
  fun Γ p hc hΓ => let ⟨r, s', hr, q⟩ := h Γ p hc hΓ; ⟨r, s', hr, q (runs_toks hr)⟩
end Mine
end
section
open PySem PySem.W PyProof.Rows
namespace Mine

/-! pure data, and how a heap bears it (never at an address of X) -/
inductive D where
  | none
  | bool (b : Bool)
  | int (i : Int)
  | str (x : Str)
  | bytes (b : Array UInt8)
  | typ (T : String)
  | tup (l : List D)
  | list (l : List D)
  | dict (l : List (Str × D))
  | obj (o : Obj) (more : List (Addr × Obj))
  | at (a : Addr)

noncomputable def tupObj (vs : List Value) (n : Nat) : Obj := { cls := .type "tuple", data := .seq vs.toArray n }
noncomputable def listObj (vs : List Value) (n : Nat) : Obj := { cls := .type "list", data := .seq vs.toArray n }
noncomputable def dictObj (es : List DictEntry) (n : Nat) : Obj := { cls := .type "dict", data := .dict es.toArray n }

noncomputable def DObj (w : World) (o : Obj) (kvs : List (Str × Value)) : Prop := o.IsDictOf (PySem.strKind P0 w) kvs
mutual
inductive Rep (P : World) (X : Addr → Prop) (h : Heap) : Value → D → Prop
  | none : Rep P X h .none .none
  | bool (b : Bool) : Rep P X h (.bool b) (.bool b)
  | int (i : Int) (t : Tok) : Rep P X h (.int i t) (.int i)
  | str (x : Str) (t : Tok) : Rep P X h (.str x t) (.str x)
  | bytes (b : Array UInt8) (t : Tok) : Rep P X h (.bytes b t) (.bytes b)
  | typ (T : String) : Rep P X h (.type T) (.typ T)
  | tup {a : Addr} {vs : List Value} {n : Nat} {ds : List D} : ¬ X a → h.get? a = some (tupObj vs n) → RepAll P X h vs ds → Rep P X h (.ref a) (.tup ds)
  | list {a : Addr} {vs : List Value} {n : Nat} {ds : List D} : ¬ X a → h.get? a = some (listObj vs n) → RepAll P X h vs ds → Rep P X h (.ref a) (.list ds)
  | dict {a : Addr} {o : Obj} {kvs : List (Str × Value)} {kds : List (Str × D)} : ¬ X a → (a == sysModules) = false → h.get? a = some o → DObj P o kvs → kvs.map (·.1) = kds.map (·.1) → RepAll P X h (kvs.map (·.2)) (kds.map (·.2)) → Rep P X h (.ref a) (.dict kds)
  | obj {a : Addr} {o : Obj} {more : List (Addr × Obj)} : ¬ X a → h.get? a = some o → (∀ p ∈ more, ¬ X p.1 ∧ h.get? p.1 = some p.2) → Rep P X h (.ref a) (.obj o more)
  | at (a : Addr) : Rep P X h (.ref a) (.at a)
inductive RepAll (P : World) (X : Addr → Prop) (h : Heap) : List Value → List D → Prop
  | nil : RepAll P X h [] []
  | cons {v : Value} {vs : List Value} {d : D} {ds : List D} : Rep P X h v d → RepAll P X h vs ds → RepAll P X h (v :: vs) (d :: ds)
end

noncomputable def RepOf (P : World) (X : Addr → Prop) (h : Heap) (v : Value) (d : D) : Prop :=
  D.casesOn (motive_1 := fun _ => Prop) d (v = .none) (fun b => v = .bool b) (fun i => ∃ t, v = .int i t) (fun x => ∃ t, v = .str x t) (fun b => ∃ t, v = .bytes b t) (fun T => v = .type T)
    (fun ds => ∃ a vs n, v = .ref a ∧ ¬ X a ∧ h.get? a = some (tupObj vs n) ∧ RepAll P X h vs ds)
    (fun ds => ∃ a vs n, v = .ref a ∧ ¬ X a ∧ h.get? a = some (listObj vs n) ∧ RepAll P X h vs ds)
    (fun kds => ∃ a o kvs, v = .ref a ∧ ¬ X a ∧ (a == sysModules) = false ∧ h.get? a = some o ∧ DObj P o kvs ∧ kvs.map (·.1) = kds.map (·.1) ∧ RepAll P X h (kvs.map (·.2)) (kds.map (·.2)))
    (fun o more => ∃ a, v = .ref a ∧ ¬ X a ∧ h.get? a = some o ∧ ∀ p ∈ more, ¬ X p.1 ∧ h.get? p.1 = some p.2)
    (fun a => v = .ref a)
noncomputable def RepAllOf (P : World) (X : Addr → Prop) (h : Heap) (vs : List Value) (ds : List D) : Prop :=
  List.casesOn ds (vs = []) fun d ds => ∃ v us, vs = v :: us ∧ Rep P X h v d ∧ RepAll P X h us ds
section
variable {P : World} {X : Addr → Prop} {h : Heap} {v : Value} {vs : List Value} {c d e : D} {ds : List D}
theorem Rep.inv (r : Rep P X h v d) : RepOf P X h v d :=
  Rep.casesOn (motive_1 := fun v d _ => RepOf P X h v d) r rfl (fun _ => rfl) (fun _ t => ⟨t, rfl⟩) (fun _ t => ⟨t, rfl⟩) (fun _ t => ⟨t, rfl⟩) (fun _ => rfl)
    (fun {a vs n _} x e s => ⟨a, vs, n, rfl, x, e, s⟩) (fun {a vs n _} x e s => ⟨a, vs, n, rfl, x, e, s⟩) (fun {a o kvs _} x z e b k s => ⟨a, o, kvs, rfl, x, z, e, b, k, s⟩)
    (fun {a _ _} x e s => ⟨a, rfl, x, e, s⟩) (fun _ => rfl)
theorem RepAll.inv (r : RepAll P X h vs ds) : RepAllOf P X h vs ds :=
  RepAll.casesOn (motive_2 := fun vs ds _ => RepAllOf P X h vs ds) r rfl (fun {v us _ _} a r => ⟨v, us, rfl, a, r⟩)
theorem len1 {l : List Value} (h : l.length = 1) : ∃ a, l = [a] := List.length_eq_one_iff.mp h
theorem len2 {l : List Value} (h : l.length = 2) : ∃ a b, l = [a, b] := by
  obtain ⟨a, r, rfl⟩ := List.exists_cons_of_length_eq_add_one h
  obtain ⟨b, rfl⟩ := len1 (Nat.succ.inj h)
  exact ⟨a, b, rfl⟩
theorem len3 {l : List Value} (h : l.length = 3) : ∃ a b c, l = [a, b, c] := by
  obtain ⟨a, r, rfl⟩ := List.exists_cons_of_length_eq_add_one h
  obtain ⟨b, c, rfl⟩ := len2 (Nat.succ.inj h)
  exact ⟨a, b, c, rfl⟩
theorem len4 {l : List Value} (h : l.length = 4) : ∃ a b c d, l = [a, b, c, d] := by
  obtain ⟨a, r, rfl⟩ := List.exists_cons_of_length_eq_add_one h
  obtain ⟨b, c, d, rfl⟩ := len3 (Nat.succ.inj h)
  exact ⟨a, b, c, d, rfl⟩
theorem RepAll.uncons (r : RepAll P X h (v :: vs) (d :: ds)) : Rep P X h v d ∧ RepAll P X h vs ds := by
  obtain ⟨v', us, e, a, r⟩ := r.inv
  injection e with e1 e2
  subst e1 e2
  exact ⟨a, r⟩
theorem RepAll.inv1 (r : RepAll P X h vs [d]) : ∃ v, vs = [v] ∧ Rep P X h v d := by
  obtain ⟨v, us, rfl, a, r⟩ := r.inv
  obtain rfl := r.inv
  exact ⟨v, rfl, a⟩
theorem RepAll.inv2 (r : RepAll P X h vs [d, e]) : ∃ v u, vs = [v, u] ∧ Rep P X h v d ∧ Rep P X h u e := by
  obtain ⟨v, us, rfl, a, r⟩ := r.inv
  obtain ⟨u, rfl, b⟩ := r.inv1
  exact ⟨v, u, rfl, a, b⟩
theorem RepAll.inv3 (r : RepAll P X h vs [d, e, c]) : ∃ v u z, vs = [v, u, z] ∧ Rep P X h v d ∧ Rep P X h u e ∧ Rep P X h z c := by
  obtain ⟨v, us, rfl, a, r⟩ := r.inv
  obtain ⟨u, z, rfl, b, q⟩ := r.inv2
  exact ⟨v, u, z, rfl, a, b, q⟩
end

noncomputable def Kp (h h' : Heap) : Prop := ∀ b o, h.get? b = some o → h'.get? b = some o
theorem Kp.refl (h : Heap) : Kp h h := fun _ _ e => e
theorem Kp.trans {h h' h'' : Heap} (a : Kp h h') (b : Kp h' h'') : Kp h h'' := fun x o e => b x o (a x o e)

/-- what stands outside X stays; X may grow by addresses that did not stand -/
noncomputable def Fixed (X X' : Addr → Prop) (h h' : Heap) : Prop := (∀ b o, ¬ X b → h.get? b = some o → h'.get? b = some o) ∧ ∀ b o, h.get? b = some o → X' b → X b
section
variable {P : World} {X X' : Addr → Prop} {h h' : Heap}
theorem Rep.mono (f : Fixed X X' h h') {v : Value} {d : D} (r : Rep P X h v d) : Rep P X' h' v d :=
  Rep.rec (motive_1 := fun v d _ => Rep P X' h' v d) (motive_2 := fun vs ds _ => RepAll P X' h' vs ds) .none .bool .int .str .bytes .typ
    (fun n e _ r => .tup (fun q => n (f.2 _ _ e q)) (f.1 _ _ n e) r) (fun n e _ r => .list (fun q => n (f.2 _ _ e q)) (f.1 _ _ n e) r)
    (fun n z e o k _ r => .dict (fun q => n (f.2 _ _ e q)) z (f.1 _ _ n e) o k r)
    (fun n e m => .obj (fun q => n (f.2 _ _ e q)) (f.1 _ _ n e) fun p hp => ⟨fun q => (m p hp).1 (f.2 _ _ (m p hp).2 q), f.1 _ _ (m p hp).1 (m p hp).2⟩)
    .at .nil (fun _ _ a r => .cons a r) r
theorem RepAll.mono (f : Fixed X X' h h') {vs : List Value} {ds : List D} (r : RepAll P X h vs ds) : RepAll P X' h' vs ds :=
  RepAll.rec (motive_1 := fun _ _ _ => True) (motive_2 := fun vs ds _ => RepAll P X' h' vs ds) trivial (fun _ => trivial) (fun _ _ => trivial) (fun _ _ => trivial) (fun _ _ => trivial) (fun _ => trivial)
    (fun _ _ _ _ => trivial) (fun _ _ _ _ => trivial) (fun _ _ _ _ _ _ _ => trivial) (fun _ _ _ => trivial) (fun _ => trivial) .nil (fun a _ _ r => .cons (a.mono f) r) r
theorem Fixed.kp (k : Kp h h') : Fixed X X h h' := ⟨fun b o _ e => k b o e, fun _ _ _ q => q⟩
theorem Rep.kp {v : Value} {d : D} (r : Rep P X h v d) (k : Kp h h') : Rep P X h' v d := r.mono (.kp k)
theorem RepAll.kp {vs : List Value} {ds : List D} (r : RepAll P X h vs ds) (k : Kp h h') : RepAll P X h' vs ds := r.mono (.kp k)
theorem RepAll.length : ∀ {vs : List Value} {ds : List D}, RepAll P X h vs ds → vs.length = ds.length
  | _, _, .nil => rfl
  | _, _, .cons _ r => by rw [List.length_cons, List.length_cons, RepAll.length r]
theorem RepAll.append : ∀ {vs ws : List Value} {ds es : List D}, RepAll P X h vs ds → RepAll P X h ws es → RepAll P X h (vs ++ ws) (ds ++ es)
  | _, _, _, _, .nil, k => k
  | _, _, _, _, .cons a r, k => .cons a (RepAll.append r k)
theorem RepAll.get : ∀ {vs : List Value} {ds : List D} {i : Nat} {d : D}, RepAll P X h vs ds → ds[i]? = some d → ∃ v, vs[i]? = some v ∧ Rep P X h v d
  | _, _, 0, _, .cons a _, e => by simp at e; exact ⟨_, rfl, e ▸ a⟩
  | _, _, i + 1, _, .cons _ r, e => by
    obtain ⟨v, h1, h2⟩ := RepAll.get (i := i) r (by simpa using e)
    exact ⟨v, by simpa using h1, h2⟩
theorem RepAll.take : ∀ {vs : List Value} {ds : List D} (n : Nat), RepAll P X h vs ds → RepAll P X h (vs.take n) (ds.take n)
  | _, _, 0, _ => by simp; exact .nil
  | _, _, _ + 1, .nil => by simp; exact .nil
  | _, _, n + 1, .cons a r => by simp only [List.take_succ_cons]; exact .cons a (RepAll.take n r)
theorem RepAll.drop : ∀ {vs : List Value} {ds : List D} (n : Nat), RepAll P X h vs ds → RepAll P X h (vs.drop n) (ds.drop n)
  | _, _, 0, r => by simpa using r
  | _, _, _ + 1, .nil => by simp; exact .nil
  | _, _, n + 1, .cons _ r => by simp only [List.drop_succ_cons]; exact RepAll.drop n r
theorem RepAll.ints : ∀ {vs : List Value} {ns : List Int}, RepAll P X h vs (ns.map .int) → IntsAre vs ns
  | _, [], .nil => .nil
  | _, i :: _, .cons a r => by
    obtain ⟨t, rfl⟩ := a.inv
    exact .cons i t r.ints
end

/-! the room that is asked -/
noncomputable def GA (k : Nat) (A : Around) : Prop := A.handled = none ∧ A.depth + k < recursionLimit ∧ A.units + 8 * k < 9000
theorem GA.le {k j : Nat} {A : Around} (g : GA k A) (h : j ≤ k) : GA j A := ⟨g.1, by have := g.2.1; omega, by have := g.2.2; omega⟩
theorem GA.deeper {k : Nat} {A : Around} (g : GA (k + 1) A) (env : Env) : GA k (A.deeper env) := ⟨g.1, by have := g.2.1; show A.depth + 1 + k < _; omega, by have := g.2.2; show A.units + 3 + 8 * k < _; omega⟩
theorem GA.room {k : Nat} {A : Around} (g : GA k A) : A.depth < recursionLimit := by have := g.2.1; omega
theorem GA.line {k : Nat} {A : Around} (g : GA k A) : A.units < cLine := by have := g.2.2; show A.units < 9900; omega

/-! a frame's names -/
noncomputable def VarIs (h : Heap) (env : Env) (x : Str) (v : Value) : Prop :=
  (env.kindOf x = some .local ∧ ∃ m, h.Ns env.locals m ∧ m x = some v) ∨ (env.kindOf x = some .cell ∧ ∃ c, env.cells.lookup x = some c ∧ h.IsCell c (some v))
theorem VarIs.kp {h h' : Heap} {env : Env} {x : Str} {v : Value} (a : VarIs h env x v) (k : Kp h h') : VarIs h' env x v :=
  a.imp (fun ⟨e, m, n, q⟩ => ⟨e, m, n.keeps k, q⟩) fun ⟨e, c, l, q⟩ => ⟨e, c, l, q.keeps k⟩

noncomputable def stat (b : Addr) : Bool := b == 46 || b == 51 || b == 43
structure St (w : World) (base : Heap) (env : Env) (V : List (Str × D)) (X : Addr → Prop) (s : Shared) : Prop where
  kept : Kp base s.heap
  kind : env.scope.kind = .function
  glob : env.globals = mainGlobals
  blt : env.builtins = builtinsNs
  low : ∀ b, X b → ∃ o, s.heap.get? b = some o
  cel : ∀ x, env.kindOf x = some .cell → ∃ c, env.cells.lookup x = some c ∧ ∃ o, s.heap.get? c = some o
  sta : ∀ b, stat b = true → (∃ o, base.get? b = some o) ∧ ¬ X b
  vars : ∀ x d, V.lookup x = some d → ∃ v, VarIs s.heap env x v ∧ Rep w X s.heap v d
/-- a step that keeps every object -/
noncomputable def Ks (s s' : Shared) : Prop := Keeps s s'
theorem Ks.kp {s s' : Shared} (k : Ks s s') : Kp s.heap s'.heap := by obtain ⟨h', tk, rfl, e⟩ := k; exact e
theorem Ks.same (s : Shared) : Ks s s := ⟨s.heap, s.toks, rfl, fun _ _ e => e⟩
theorem Ks.tok (s : Shared) (t : Nat) : Ks s { s with toks := t } := ⟨s.heap, t, rfl, fun _ _ e => e⟩
theorem Ks.then {s s' s'' : Shared} (a : Ks s s') (b : Ks s' s'') : Ks s s'' := by
  obtain ⟨h', tk, rfl, e⟩ := a
  obtain ⟨h'', tk', rfl, e'⟩ := b
  exact ⟨h'', tk', rfl, fun x o q => e' x o (e x o q)⟩
theorem Ks.push (s : Shared) (o : Obj) (t : Nat) : Ks s { s with heap := s.heap.push o, toks := t } := ⟨_, t, rfl, fun _ _ e => Heap.get?_push_of_some _ e⟩
theorem Ks.push0 (s : Shared) (o : Obj) : Ks s { s with heap := s.heap.push o } := ⟨_, s.toks, rfl, fun _ _ e => Heap.get?_push_of_some _ e⟩
end Mine
end
section
open PySem PySem.W PyProof.Rows
namespace Mine

@[irreducible] noncomputable def Seal (p : Prop) : Prop := p
theorem Seal.out {p : Prop} (h : Seal p) : p := by unfold Seal at h; exact h
theorem Seal.mk {p : Prop} (h : p) : Seal p := by unfold Seal; exact h
noncomputable def Ok (base : Heap) (X : Addr → Prop) (s : Shared) : Prop := Kp base s.heap ∧ (∀ b, X b → ∃ o, s.heap.get? b = some o) ∧ ∀ b, stat b = true → (∃ o, base.get? b = some o) ∧ ¬ X b
theorem Ok.keeps {base : Heap} {X : Addr → Prop} {s s' : Shared} (o : Ok base X s) (k : Ks s s') : Ok base X s' :=
  ⟨o.1.trans k.kp, fun b q => let ⟨x, e⟩ := o.2.1 b q; ⟨x, k.kp b x e⟩, o.2.2⟩
theorem Ok.fresh {base : Heap} {X : Addr → Prop} {s : Shared} (o : Ok base X s) : ¬ X s.heap.objs.size := fun q => by
  obtain ⟨x, e⟩ := o.2.1 _ q
  exact absurd (Heap.lt_size e) (Nat.lt_irrefl _)
theorem St.ok {w : World} {base : Heap} {env : Env} {V : List (Str × D)} {X : Addr → Prop} {s : Shared} (S : St w base env V X s) : Ok base X s := ⟨S.kept, S.low, S.sta⟩
theorem St.keeps {w : World} {base : Heap} {env : Env} {V : List (Str × D)} {X : Addr → Prop} {s s' : Shared} (S : St w base env V X s) (k : Ks s s') : St w base env V X s' where
  kept := S.kept.trans k.kp
  kind := S.kind
  glob := S.glob
  blt := S.blt
  low := fun b q => let ⟨x, e⟩ := S.low b q; ⟨x, k.kp b x e⟩
  cel := fun x h => let ⟨c, l, o, e⟩ := S.cel x h; ⟨c, l, o, k.kp c o e⟩
  sta := S.sta
  vars := fun x d e => let ⟨v, a, b⟩ := S.vars x d e; ⟨v, a.kp k.kp, b.kp k.kp⟩

section
variable (prog : Program) (w : World) (base : Heap)
/-- e gives d; t tells b; f turns a into d, .. -/
noncomputable def Ev (k : Nat) (env : Env) (V : List (Str × D)) (e : Expr) (d : D) : Prop :=
  Seal (∀ (A : Around) (X : Addr → Prop) (s : Shared) (Q : Value → Shared → Prop) (E : Value → Shared → Prop), GA k A → St w base env V X s →
    (∀ v s', Rep w X s'.heap v d → Ks s s' → Q v s') → wpAny (model prog w) A (eval e env) Q E s)
noncomputable def Tr (k : Nat) (env : Env) (V : List (Str × D)) (e : Expr) (b : Bool) : Prop :=
  Seal (∀ (A : Around) (X : Addr → Prop) (s : Shared) (Q : Bool → Shared → Prop) (E : Value → Shared → Prop), GA k A → St w base env V X s →
    (∀ s', Ks s s' → Q b s') → wpAny (model prog w) A (isTrue e env (eval e env)) Q E s)
noncomputable def Op1 (k : Nat) (f : Value → Sem Value) (a d : D) : Prop :=
  Seal (∀ (A : Around) (X : Addr → Prop) (s : Shared) (Q : Value → Shared → Prop) (E : Value → Shared → Prop) (v : Value), GA k A → Ok base X s → Rep w X s.heap v a →
    (∀ v' s', Rep w X s'.heap v' d → Ks s s' → Q v' s') → wpAny (model prog w) A (f v) Q E s)
noncomputable def Op2 (k : Nat) (f : Value → Value → Sem Value) (a b d : D) : Prop :=
  Seal (∀ (A : Around) (X : Addr → Prop) (s : Shared) (Q : Value → Shared → Prop) (E : Value → Shared → Prop) (v u : Value), GA k A → Ok base X s → Rep w X s.heap v a → Rep w X s.heap u b →
    (∀ v' s', Rep w X s'.heap v' d → Ks s s' → Q v' s') → wpAny (model prog w) A (f v u) Q E s)
noncomputable def OpL (k : Nat) (f : List Value → Sem Value) (as : List D) (d : D) : Prop :=
  Seal (∀ (A : Around) (X : Addr → Prop) (s : Shared) (Q : Value → Shared → Prop) (E : Value → Shared → Prop) (vs : List Value), GA k A → Ok base X s → RepAll w X s.heap vs as →
    (∀ v' s', Rep w X s'.heap v' d → Ks s s' → Q v' s') → wpAny (model prog w) A (f vs) Q E s)
noncomputable def OpT (k : Nat) (f : Value → Sem Bool) (a : D) (b : Bool) : Prop :=
  Seal (∀ (A : Around) (X : Addr → Prop) (s : Shared) (Q : Bool → Shared → Prop) (E : Value → Shared → Prop) (v : Value), GA k A → Ok base X s → Rep w X s.heap v a →
    (∀ s', Ks s s' → Q b s') → wpAny (model prog w) A (f v) Q E s)
end

section
variable {prog : Program} {w : World} {base : Heap} {k : Nat} {env : Env} {V : List (Str × D)}

/-! the syntax -/
theorem Ev.name {x : Str} {d : D} {p : Pos} (h : V.lookup x = some d) (hd : (x == ("__debug__" : Str)) = false := by decide) : Ev prog w base k env V (.Name x p) d := by
  refine Seal.mk ?_
  intro A X s Q E _ S q
  obtain ⟨v, hv, r⟩ := S.vars x d h
  refine wpAny_Name ?_ hd
  rcases hv with ⟨hk, m, n, e⟩ | ⟨hk, c, l, e⟩
  · exact wpAny_loadName_local S.kind hk n e (q v s r (.same s))
  · exact wpAny_loadName_cell S.kind hk l e (q v s r (.same s))
theorem Ev.int {i : Int} {n : Nat} {p : Pos} : Ev prog w base k env V (.Constant (.int i) n p) (.int i) :=
  Seal.mk fun _ _ s _ _ _ _ q => wpAny_Constant_int (q _ _ (.int i _) (.tok s _))
theorem Ev.str {x : Str} {n : Nat} {p : Pos} : Ev prog w base k env V (.Constant (.str x) n p) (.str x) :=
  Seal.mk fun _ _ s _ _ _ _ q => wpAny_Constant_str (q _ _ (.str x _) (.tok s _))
theorem Ev.none {n : Nat} {p : Pos} : Ev prog w base k env V (.Constant .none n p) .none :=
  Seal.mk fun _ _ s _ _ _ _ q => wpAny_Constant_none (q _ _ .none (.same s))
theorem Ev.bool {b : Bool} {n : Nat} {p : Pos} : Ev prog w base k env V (.Constant (.bool b) n p) (.bool b) :=
  Seal.mk fun _ _ s _ _ _ _ q => wpAny_Constant_bool (q _ _ (.bool b) (.same s))
theorem Ev.binop {l r : Expr} {op : Operator} {p : Pos} {a b d : D} (hl : Ev prog w base k env V l a) (hr : Ev prog w base k env V r b) (ho : Op2 prog w base k (binaryOp op) a b d) :
    Ev prog w base k env V (.BinOp l op r p) d := Seal.mk fun A X s Q E g S q =>
  wpAny_BinOp (hl.out A X s _ E g S fun v s' rv kv => hr.out A X s' _ E g (S.keeps kv) fun u s'' ru ku =>
    ho.out A X s'' Q E v u g (S.keeps (kv.then ku)).ok (rv.kp ku.kp) ru fun x t rx kx => q x t rx ((kv.then ku).then kx))
theorem Ev.compare {l r : Expr} {op : CmpOp} {p : Pos} {a b d : D} (hl : Ev prog w base k env V l a) (hr : Ev prog w base k env V r b) (ho : Op2 prog w base k (compareOp op) a b d)
    (hm : behindInMarks op r = false := by with_unfolding_all rfl) : Ev prog w base k env V (.Compare l [op] [r] p) d := Seal.mk fun A X s Q E g S q =>
  wpAny_Compare1 (hl.out A X s _ E g S fun v s' rv kv => hr.out A X s' _ E g (S.keeps kv) fun u s'' ru ku =>
    ho.out A X s'' Q E v u g (S.keeps (kv.then ku)).ok (rv.kp ku.kp) ru fun x t rx kx => q x t rx ((kv.then ku).then kx)) hm
theorem Tr.compare {l r : Expr} {op : CmpOp} {p : Pos} {a b : D} {c : Bool} (hl : Ev prog w base k env V l a) (hr : Ev prog w base k env V r b) (ho : Op2 prog w base k (compareOp op) a b (.bool c))
    (hm : behindInMarks op r = false := by with_unfolding_all rfl) : Tr prog w base k env V (.Compare l [op] [r] p) c := Seal.mk fun A X s Q E g S q =>
  wpAny_isTrue_Compare1 (hl.out A X s _ E g S fun v s' rv kv => hr.out A X s' _ E g (S.keeps kv) fun u s'' ru ku =>
    ho.out A X s'' _ E v u g (S.keeps (kv.then ku)).ok (rv.kp ku.kp) ru fun x t rx kx => by
      obtain rfl := rx.inv
      exact wpAny_truthy_bool (q t ((kv.then ku).then kx))) hm
theorem Tr.not {x : Expr} {p : Pos} {b : Bool} (h : Tr prog w base k env V x b) : Tr prog w base k env V (.UnaryOp .Not x p) (!b) := Seal.mk fun A X s Q E g S q =>
  wpAny_isTrue_Not (h.out A X s _ E g S fun s' k' => q s' k')
theorem Tr.value {e : Expr} {d : D} {b : Bool} (h : Ev prog w base k env V e d) (ht : OpT prog w base k truthy d b)
    (hp : ∀ whole, isTrue e env whole = (do let v ← whole; standAt e.pos; holding [v] (truthy v)) := by intro _; rfl) : Tr prog w base k env V e b := Seal.mk fun A X s Q E g S q => by
  rw [hp]
  exact wpAny_bind (h.out A X s _ E g S fun v s' r kv => wpAny_bind (wpAny_standAt (wpAny_holding (ht.out A X s' _ E v g (S.keeps kv).ok r fun t kt => q t (kv.then kt)))))
theorem Ev.ifexp {t x y : Expr} {p : Pos} {b : Bool} {d : D} (ht : Tr prog w base k env V t b) (hx : b = true → Ev prog w base k env V x d) (hy : b = false → Ev prog w base k env V y d) :
    Ev prog w base k env V (.IfExp t x y p) d := Seal.mk fun A X s Q E g S q => by
  refine wpAny_IfExp (ht.out A X s _ E g S fun s' k' => ?_)
  cases b with
  | true => exact (hx rfl).out A X s' Q E g (S.keeps k') fun v t r kt => q v t r (k'.then kt)
  | false => exact (hy rfl).out A X s' Q E g (S.keeps k') fun v t r kt => q v t r (k'.then kt)
theorem Ev.unary {x : Expr} {op : UnaryOp} {p : Pos} {a d : D} (h : Ev prog w base k env V x a) (ho : Op1 prog w base k (unaryOp op) a d) : Ev prog w base k env V (.UnaryOp op x p) d := Seal.mk fun A X s Q E g S q =>
  wpAny_UnaryOp (h.out A X s _ E g S fun v s' r kv => ho.out A X s' Q E v g (S.keeps kv).ok r fun u t ru kt => q u t ru (kv.then kt))

/-! boolean chains -/
theorem Tr.and_nil {p : Pos} : Tr prog w base k env V (.BoolOp .And [] p) true := Seal.mk fun _ _ s _ _ _ _ q => isTrue_and_nil (q s (.same s))
theorem Tr.or_nil {p : Pos} : Tr prog w base k env V (.BoolOp .Or [] p) false := Seal.mk fun _ _ s _ _ _ _ q => isTrue_or_nil (q s (.same s))
theorem Tr.and {x : Expr} {rest : List Expr} {p : Pos} {a b : Bool} (hx : Tr prog w base k env V x a) (hr : a = true → Tr prog w base k env V (.BoolOp .And rest p) b) :
    Tr prog w base k env V (.BoolOp .And (x :: rest) p) (a && b) := Seal.mk fun A X s Q E g S q => by
  refine isTrue_and (hx.out A X s _ E g S fun s' k' => ?_)
  cases a with
  | true => exact (hr rfl).out A X s' Q E g (S.keeps k') fun t kt => q t (k'.then kt)
  | false => exact q s' k'
theorem Tr.or {x : Expr} {rest : List Expr} {p : Pos} {a b : Bool} (hx : Tr prog w base k env V x a) (hr : a = false → Tr prog w base k env V (.BoolOp .Or rest p) b) :
    Tr prog w base k env V (.BoolOp .Or (x :: rest) p) (a || b) := Seal.mk fun A X s Q E g S q => by
  refine isTrue_or (hx.out A X s _ E g S fun s' k' => ?_)
  cases a with
  | false => exact (hr rfl).out A X s' Q E g (S.keeps k') fun t kt => q t (k'.then kt)
  | true => exact q s' k'
end
end Mine
end
section
open PySem PySem.W PyProof.Rows
namespace Mine
theorem str_beq (x y : Str) : (x.cps.toList == y.cps.toList) = decide (x = y) := by
  by_cases h : x = y
  · subst h; simp
  · rw [decide_eq_false h]
    apply Bool.eq_false_iff.mpr
    intro q
    apply h
    have := beq_iff_eq.mp q
    obtain ⟨a⟩ := x
    obtain ⟨b⟩ := y
    simp only [Str.mk.injEq]
    exact Array.toList_inj.mp this

section
variable {prog : Program} {w : World} {base : Heap} {k : Nat} {env : Env} {V : List (Str × D)}
/-! ints -/
theorem op_add {a b : Int} : Op2 prog w base k (binaryOp .Add) (.int a) (.int b) (.int (a + b)) := Seal.mk fun A X s Q E v u _ _ r1 r2 q => by
  obtain ⟨_, rfl⟩ := r1.inv; obtain ⟨_, rfl⟩ := r2.inv; exact add_int (q _ _ (.int _ _) (.tok s _))
theorem op_sub {a b : Int} : Op2 prog w base k (binaryOp .Sub) (.int a) (.int b) (.int (a - b)) := Seal.mk fun A X s Q E v u _ _ r1 r2 q => by
  obtain ⟨_, rfl⟩ := r1.inv; obtain ⟨_, rfl⟩ := r2.inv; exact sub_int (q _ _ (.int _ _) (.tok s _))
theorem op_mul {a b : Int} (hm : IntMulOk a b) : Op2 prog w base k (binaryOp .Mult) (.int a) (.int b) (.int (a * b)) := Seal.mk fun A X s Q E v u _ _ r1 r2 q => by
  obtain ⟨_, rfl⟩ := r1.inv; obtain ⟨_, rfl⟩ := r2.inv; exact mul_int (q _ _ (.int _ _) (.tok s _)) hm
theorem op_div {a b : Int} (hb : b ≠ 0) (hs : Builtin.divisionGoesByPylong a b = false) : Op2 prog w base k (binaryOp .FloorDiv) (.int a) (.int b) (.int (a.fdiv b)) := Seal.mk fun A X s Q E v u _ _ r1 r2 q => by
  obtain ⟨_, rfl⟩ := r1.inv; obtain ⟨_, rfl⟩ := r2.inv; exact floordiv_int hb (q _ _ (.int _ _) (.tok s _)) (.inl hs)
theorem op_mod {a b : Int} (hb : b ≠ 0) : Op2 prog w base k (binaryOp .Mod) (.int a) (.int b) (.int (a.fmod b)) := Seal.mk fun A X s Q E v u g _ r1 r2 q => by
  obtain ⟨_, rfl⟩ := r1.inv; obtain ⟨_, rfl⟩ := r2.inv; exact mod_int_or g.1 (fun h => absurd h hb) fun _ => q _ _ (.int _ _) (.tok s _)
theorem op_neg {a : Int} : Op1 prog w base k (unaryOp .USub) (.int a) (.int (-a)) := Seal.mk fun A X s Q E v _ _ r q => by
  obtain ⟨_, rfl⟩ := r.inv; exact neg_int (q _ _ (.int _ _) (.tok s _))
theorem cmp_lt {a b : Int} : Op2 prog w base k (compareOp .Lt) (.int a) (.int b) (.bool (decide (a < b))) := Seal.mk fun A X s Q E v u _ _ r1 r2 q => by
  obtain ⟨_, rfl⟩ := r1.inv; obtain ⟨_, rfl⟩ := r2.inv; exact lt_int (q _ _ (.bool _) (.same s))
theorem cmp_le {a b : Int} : Op2 prog w base k (compareOp .LtE) (.int a) (.int b) (.bool (decide (a ≤ b))) := Seal.mk fun A X s Q E v u _ _ r1 r2 q => by
  obtain ⟨_, rfl⟩ := r1.inv; obtain ⟨_, rfl⟩ := r2.inv; exact le_int (q _ _ (.bool _) (.same s))
theorem cmp_gt {a b : Int} : Op2 prog w base k (compareOp .Gt) (.int a) (.int b) (.bool (decide (a > b))) := Seal.mk fun A X s Q E v u _ _ r1 r2 q => by
  obtain ⟨_, rfl⟩ := r1.inv; obtain ⟨_, rfl⟩ := r2.inv; exact gt_int (q _ _ (.bool _) (.same s))
theorem cmp_eq {a b : Int} : Op2 prog w base k (compareOp .Eq) (.int a) (.int b) (.bool (a == b)) := Seal.mk fun A X s Q E v u _ _ r1 r2 q => by
  obtain ⟨_, rfl⟩ := r1.inv; obtain ⟨_, rfl⟩ := r2.inv; exact eq_int (q _ _ (.bool _) (.same s))
theorem cmp_ne {a b : Int} : Op2 prog w base k (compareOp .NotEq) (.int a) (.int b) (.bool (a != b)) := Seal.mk fun A X s Q E v u _ _ r1 r2 q => by
  obtain ⟨_, rfl⟩ := r1.inv; obtain ⟨_, rfl⟩ := r2.inv; exact ne_int (q _ _ (.bool _) (.same s))
theorem t_int {a : Int} : OpT prog w base k truthy (.int a) (a != 0) := Seal.mk fun A X s Q E v _ _ r q => by
  obtain ⟨_, rfl⟩ := r.inv; exact truthy_int (q s (.same s))
theorem t_bool {b : Bool} : OpT prog w base k truthy (.bool b) b := Seal.mk fun A X s Q E v _ _ r q => by
  obtain rfl := r.inv; exact wpAny_truthy_bool (q s (.same s))

/-! strs -/
theorem op_cat {x y : Str} (hsz : (x ++ y).length ≤ sizeLine) : Op2 prog w base k (binaryOp .Add) (.str x) (.str y) (.str (x ++ y)) := Seal.mk fun A X s Q E v u _ _ r1 r2 q => by
  obtain ⟨t, rfl⟩ := r1.inv
  obtain ⟨t', rfl⟩ := r2.inv
  refine P.add_str ?_
  split
  · rename_i h
    refine q _ _ ?_ (.same s)
    have e : x ++ y = y := by
      have h0 : x = Str.empty := by
        obtain ⟨c⟩ := x
        have : c.size = 0 := by simpa [Str.length] using h
        simp only [Str.empty, Str.mk.injEq]
        exact Array.eq_empty_of_size_eq_zero this
      rw [h0]; exact Str.empty_append y
    rw [e]; exact .str y t'
  · split
    · rename_i h
      refine q _ _ ?_ (.same s)
      have e : x ++ y = x := by
        obtain ⟨c⟩ := y
        have : c.size = 0 := by simpa [Str.length] using h
        have h0 : c = #[] := Array.eq_empty_of_size_eq_zero this
        subst h0
        exact Str.ext' (by simp [Str.cps_append])
      rw [e]; exact .str x t
    · exact ⟨hsz, q _ _ (.str _ _) (.tok s _)⟩
theorem cmp_seq {x y : Str} : Op2 prog w base k (compareOp .Eq) (.str x) (.str y) (.bool (decide (x = y))) := Seal.mk fun A X s Q E v u _ _ r1 r2 q => by
  obtain ⟨_, rfl⟩ := r1.inv; obtain ⟨_, rfl⟩ := r2.inv; exact P.eq_str (by rw [str_beq]; exact q _ _ (.bool _) (.same s))
theorem cmp_sne {x y : Str} : Op2 prog w base k (compareOp .NotEq) (.str x) (.str y) (.bool (!decide (x = y))) := Seal.mk fun A X s Q E v u _ _ r1 r2 q => by
  obtain ⟨_, rfl⟩ := r1.inv; obtain ⟨_, rfl⟩ := r2.inv; exact P.ne_str (by rw [show (x.cps.toList != y.cps.toList) = !decide (x = y) from by rw [bne, str_beq]]; exact q _ _ (.bool _) (.same s))
theorem c_chr {i : Int} (h0 : 0 ≤ i) (h1 : i ≤ 1114111) : OpL prog w base k (fun vs => call (.builtin "chr") vs) [.int i] (.str ⟨#[i.toNat]⟩) := Seal.mk fun A X s Q E vs _ _ r q => by
  obtain ⟨_, rfl, a⟩ := r.inv1
  obtain ⟨_, rfl⟩ := a.inv; exact chr_of_range h0 h1 (q _ _ (.str _ _) (.tok s _))
theorem c_ord {x : Str} (h1 : x.length = 1) : OpL prog w base k (fun vs => call (.builtin "ord") vs) [.str x] (.int (x.cps.getD 0 0 : Nat)) := Seal.mk fun A X s Q E vs _ _ r q => by
  obtain ⟨_, rfl, a⟩ := r.inv1
  obtain ⟨_, rfl⟩ := a.inv; exact ord_of_one h1 (q _ _ (.int _ _) (.tok s _))
theorem g_str {x : Str} {i : Int} {c : Nat} (hr : (decide (i < -(2 ^ 63 : Int)) || decide (i ≥ 2 ^ 63)) = false) (hc : (seqIndex? i x.length).bind (x.cps[·]?) = some c) : Op2 prog w base k getItem (.str x) (.int i) (.str ⟨#[c]⟩) := Seal.mk fun A X s Q E v u _ _ r1 r2 q => by
  obtain ⟨_, rfl⟩ := r1.inv; obtain ⟨_, rfl⟩ := r2.inv; exact P.getItem_str hr hc (q _ _ (.str _ _) (.tok s _))
end
end Mine
end
section
open PySem PySem.W PyProof.Rows
namespace Mine
section
variable (prog : Program) (w : World) (base : Heap)
noncomputable def Evs (k : Nat) (env : Env) (V : List (Str × D)) (es : List Expr) (ds : List D) : Prop :=
  Seal (∀ (A : Around) (X : Addr → Prop) (s : Shared) (Q : List Value → Shared → Prop) (E : Value → Shared → Prop) (pos : Pos), GA k A → St w base env V X s →
    (∀ vs s', RepAll w X s'.heap vs ds → Ks s s' → Q vs s') → wpAny (model prog w) A (spliced (backTo pos (starEach es env))) Q E s)
/-- a global name of the text's (or a built-in one) -/
noncomputable def GlobIs (x : Str) (v : Value) : Prop :=
  Seal (∀ (A : Around) (env : Env) (s : Shared) (Q : Value → Shared → Prop) (E : Value → Shared → Prop) (p : Pos), env.scope.kind = .function → env.globals = mainGlobals → env.builtins = builtinsNs →
    env.kindOf x = some .globalImplicit → Kp base s.heap → Q v s → wpAny (model prog w) A (eval (.Name x p) env) Q E s)
noncomputable def FnIs (a : Addr) (fd : FuncData) : Prop := ∃ o, base.get? a = some o ∧ o.data = .func fd
end
section
variable {prog : Program} {w : World} {base : Heap} {k : Nat} {env : Env} {V : List (Str × D)}
theorem Evs.nil : Evs prog w base k env V [] [] := Seal.mk fun _ _ s _ _ _ _ _ q => Calls.spliced_nil (q [] s .nil (.same s))
theorem Evs.cons {e : Expr} {es : List Expr} {d : D} {ds : List D} (h : Ev prog w base k env V e d) (r : Evs prog w base k env V es ds) (he : starEach (e :: es) env = (false, eval e env) :: starEach es env := by rfl) :
    Evs prog w base k env V (e :: es) (d :: ds) := Seal.mk fun A X s Q E pos g S q => by
  rw [he]
  refine Calls.spliced_cons (h.out A X s _ E g S fun v s' rv kv => ?_)
  exact r.out A X s' _ E pos g (S.keeps kv) fun vs s'' rs ks => q _ _ (.cons (rv.kp ks.kp) rs) (kv.then ks)

theorem wp_newTuple {M : Model} {A : Around} {E : Value → Shared → Prop} {s : Shared} {vs : List Value} {Q : Value → Shared → Prop} (hsz : vs.length ≤ sizeLine) (h : Q (.ref s.heap.objs.size) { s with heap := s.heap.push (tupObj vs 0) }) :
    wpAny M A (newTuple vs) Q E s := wpAny_newObj_type h (by show vs.toArray.size ≤ sizeLine; rw [List.size_toArray]; exact hsz)
theorem wp_newList {M : Model} {A : Around} {E : Value → Shared → Prop} {s : Shared} {vs : List Value} {Q : Value → Shared → Prop} (hsz : vs.length ≤ sizeLine) (h : Q (.ref s.heap.objs.size) { s with heap := s.heap.push (listObj vs 0) }) :
    wpAny M A (newList vs) Q E s := wpAny_newObj_type h (by show vs.toArray.size ≤ sizeLine; rw [List.size_toArray]; exact hsz)
theorem rep_newTuple {P : World} {X : Addr → Prop} {s : Shared} {vs : List Value} {ds : List D} (o : Ok base X s) (r : RepAll P X s.heap vs ds) : Rep P X (s.heap.push (tupObj vs 0)) (.ref s.heap.objs.size) (.tup ds) :=
  .tup o.fresh (Heap.get?_push_size _ rfl) (r.kp fun _ _ e => Heap.get?_push_of_some _ e)
theorem rep_newList {P : World} {X : Addr → Prop} {s : Shared} {vs : List Value} {ds : List D} (o : Ok base X s) (r : RepAll P X s.heap vs ds) : Rep P X (s.heap.push (listObj vs 0)) (.ref s.heap.objs.size) (.list ds) :=
  .list o.fresh (Heap.get?_push_size _ rfl) (r.kp fun _ _ e => Heap.get?_push_of_some _ e)

theorem Ev.tuple {es : List Expr} {n : Nat} {p : Pos} {ds : List D} (h : Evs prog w base k env V es ds) (hsz : ds.length ≤ sizeLine := by decide) : Ev prog w base k env V (.Tuple es n p) (.tup ds) := Seal.mk fun A X s Q E g S q =>
  Tuple_ (h.out A X s _ E p g S fun vs s' r ks => wp_newTuple (by rw [r.length]; exact hsz) (q _ _ (rep_newTuple (S.keeps ks).ok r) (ks.then (.push0 s' _))))
theorem Ev.list {es : List Expr} {p : Pos} {ds : List D} (h : Evs prog w base k env V es ds) (hsz : ds.length ≤ sizeLine := by decide) : Ev prog w base k env V (.List es p) (.list ds) := Seal.mk fun A X s Q E g S q =>
  List_ (h.out A X s _ E p g S fun vs s' r ks => wp_newList (by rw [r.length]; exact hsz) (q _ _ (rep_newList (S.keeps ks).ok r) (ks.then (.push0 s' _))))

theorem Ev.glob {x : Str} {v : Value} {d : D} {p : Pos} (h : GlobIs prog w base x v) (hk : env.kindOf x = some .globalImplicit) (hr : ∀ X s, Ok base X s → Rep w X s.heap v d) : Ev prog w base k env V (.Name x p) d :=
  Seal.mk fun A X s Q E _ S q => h.out A env s Q E p S.kind S.glob S.blt hk S.kept (q v s (hr X s S.ok) (.same s))
theorem Ev.callB {x : Str} {id : String} {e : Expr} {es : List Expr} {ds : List D} {d : D} {p pos : Pos} (h : GlobIs prog w base x (.builtin id)) (hk : env.kindOf x = some .globalImplicit) (ha : Evs prog w base k env V (e :: es) ds)
    (ho : OpL prog w base k (fun vs => call (.builtin id) vs) ds d) (he : starEach (e :: es) env = (false, eval e env) :: starEach es env := by rfl) (hp : (backTo pos (starEach es env)).any (·.1) = false := by rfl) :
    Ev prog w base k env V (.Call (.Name x p) (e :: es) [] pos) d := Seal.mk fun A X s Q E g S q =>
  Call_Name rfl (h.out A env s _ E p S.kind S.glob S.blt hk S.kept (callWith_builtin1 (ha.out A X s _ E pos g S fun vs s' r ks =>
    ho.out A X s' Q E vs g (S.keeps ks).ok r fun v t rv kv => q v t rv (ks.then kv)) he hp))
theorem Ev.callT {x : Str} {T : String} {e : Expr} {es : List Expr} {ds : List D} {d : D} {p pos : Pos} (h : GlobIs prog w base x (.type T)) (hk : env.kindOf x = some .globalImplicit) (ha : Evs prog w base k env V (e :: es) ds)
    (ho : OpL prog w base k (fun vs => call (.type T) vs) ds d) (he : starEach (e :: es) env = (false, eval e env) :: starEach es env := by rfl) (hp : (backTo pos (starEach es env)).any (·.1) = false := by rfl) :
    Ev prog w base k env V (.Call (.Name x p) (e :: es) [] pos) d := Seal.mk fun A X s Q E g S q =>
  Call_Name rfl (h.out A env s _ E p S.kind S.glob S.blt hk S.kept (PyProof.Rows.callWith_type1 (ha.out A X s _ E pos g S fun vs s' r ks =>
    ho.out A X s' Q E vs g (S.keeps ks).ok r fun v t rv kv => q v t rv (ks.then kv)) he hp))
theorem Ev.callF {x : Str} {a : Addr} {fd : FuncData} {e : Expr} {es : List Expr} {ds : List D} {d : D} {p pos : Pos} (h : GlobIs prog w base x (.ref a)) (hk : env.kindOf x = some .globalImplicit) (hf : FnIs base a fd) (ha : Evs prog w base k env V (e :: es) ds)
    (ho : OpL prog w base k (fun vs => call (.ref a) vs) ds d) (he : starEach (e :: es) env = (false, eval e env) :: starEach es env := by rfl) :
    Ev prog w base k env V (.Call (.Name x p) (e :: es) [] pos) d := Seal.mk fun A X s Q E g S q => by
  obtain ⟨o, h1, h2⟩ := hf
  exact Call_Name rfl (h.out A env s _ E p S.kind S.glob S.blt hk S.kept (callWith_def h2 (ha.out A X s _ E pos g S fun vs s' r ks =>
    ⟨(S.keeps ks).kept _ _ h1, ho.out A X s' Q E vs g (S.keeps ks).ok r fun v t rv kv => q v t rv (ks.then kv)⟩) he))

/-! subscripts -/
noncomputable def D.hasItems : D → Bool
  | .list _ | .str _ | .dict _ | .tup _ => true
  | _ => false
theorem Rep.getter {P : World} {X : Addr → Prop} {s : Shared} {v : Value} {d : D} (r : Rep P X s.heap v d) : d.hasItems = true → ∃ T id, s.TypeIs v T ∧ typeLookup (.type T) "__getitem__" = pure (some (.builtin id)) := by
  intro h
  cases d with
  | list ds => obtain ⟨a, vs, n, rfl, _, e, _⟩ := r.inv; exact ⟨"list", _, ⟨_, e, rfl⟩, slot_list_getitem.lookup⟩
  | str x => obtain ⟨t, rfl⟩ := r.inv; exact ⟨"str", _, typeIs_str s x t, PySem.F.slot_str_getitem.lookup⟩
  | dict kds => obtain ⟨a, o, kvs, rfl, _, _, e, ⟨es, ep, x, _⟩, _⟩ := r.inv; exact ⟨"dict", _, ⟨_, e, x.1⟩, slot_dict_getitem.lookup⟩
  | tup ds => obtain ⟨a, vs, n, rfl, _, e, _⟩ := r.inv; exact ⟨"tuple", _, ⟨_, e, rfl⟩, PySem.F.slot_tuple_getitem.lookup⟩
  | _ => exact absurd h Bool.false_ne_true
theorem Ev.sub {value slice : Expr} {p : Pos} {a b d : D} (hv : Ev prog w base k env V value a) (hi : Ev prog w base k env V slice b) (ho : Op2 prog w base k getItem a b d)
    (ht : a.hasItems = true := by rfl) (hs : ∀ o i, ∃ ops, subscripted slice false o i = operate ops (getItem o i) := by intro _ _; exact ⟨_, rfl⟩) :
    Ev prog w base k env V (.Subscript value slice p) d := Seal.mk fun A X s Q E g S q =>
  Subscript_ (hv.out A X s _ E g S fun v s' rv kv => hi.out A X s' _ E g (S.keeps kv) fun i s'' ri ki => by
    obtain ⟨T, id, hT, hl⟩ := (rv.kp ki.kp).getter ht
    obtain ⟨ops, hops⟩ := hs v i
    exact tail_any hT hl (ho.out A X s'' Q E v i g (S.keeps (kv.then ki)).ok (rv.kp ki.kp) ri fun x t rx kx => q x t rx ((kv.then ki).then kx)) hops)
end
end Mine
end
section
open PySem PySem.W PyProof.Rows
namespace Mine

/-- what an address of ours holds (never seen from outside) -/
noncomputable def Body (P : World) (X : Addr → Prop) (h : Heap) (a : Addr) : D → Prop
  | .list ds => ∃ vs n, h.get? a = some (listObj vs n) ∧ RepAll P X h vs ds
  | .dict ds => ∃ o kvs, h.get? a = some o ∧ DObj P o kvs ∧ kvs.map (·.1) = ds.map (·.1) ∧ RepAll P X h (kvs.map (·.2)) (ds.map (·.2))
  | _ => False
theorem Body.mono {P : World} {X X' : Addr → Prop} {h h' : Heap} {a : Addr} {d : D} (b : Body P X h a d) (f : Fixed X X' h h') (e : ∀ o, h.get? a = some o → h'.get? a = some o) : Body P X' h' a d := by
  cases d with
  | list ds => obtain ⟨vs, n, x, r⟩ := b; exact ⟨vs, n, e _ x, r.mono f⟩
  | dict ds => obtain ⟨o, kvs, x, q, k, r⟩ := b; exact ⟨o, kvs, e _ x, q, k, r.mono f⟩
  | _ => exact b.elim

/-- a name that this frame may bind -/
noncomputable def Bnd (env : Env) (Y : Addr → Prop) (x : Str) : Prop := env.kindOf x = some .local ∨ (env.kindOf x = some .cell ∧ ∃ c, env.cells.lookup x = some c ∧ Y c)
structure Own (base : Heap) (env : Env) (B : Str → Bool) (X Y : Addr → Prop) (h : Heap) : Prop where
  sub : ∀ b, Y b → X b ∧ base.get? b = none
  loc : Y env.locals
  ns : ∃ m, h.Ns env.locals m
  cells : ∀ x c, env.kindOf x = some .cell → env.cells.lookup x = some c → Y c → (∃ v, h.IsCell c v) ∧ ∀ y, env.cells.lookup y = some c → y = x
  cel : ∀ x c, env.kindOf x = some .cell → env.cells.lookup x = some c → Y c ∨ ∃ o, base.get? c = some o
  bnd : ∀ x, B x = true → Bnd env Y x
structure Frm (w : World) (base : Heap) (env : Env) (B : Str → Bool) (V O : List (Str × D)) (X Y : Addr → Prop) (s : Shared) : Prop where
  st : St w base env V X s
  ow : Own base env B X Y s.heap
  owd : ∃ ad : Str → Addr, (∀ x d, O.lookup x = some d → VarIs s.heap env x (.ref (ad x)) ∧ Y (ad x) ∧ ad x ≠ env.locals ∧ Body w X s.heap (ad x) d) ∧ ∀ x y, O.lookup x ≠ none → O.lookup y ≠ none → ad x = ad y → x = y
structure Stp (X Y : Addr → Prop) (s : Shared) (X' Y' : Addr → Prop) (s' : Shared) : Prop where
  same : ∃ h tk, s' = { s with heap := h, toks := tk }
  mod : ∀ b o, ¬ Y b → s.heap.get? b = some o → s'.heap.get? b = some o
  alive : ∀ b o, s.heap.get? b = some o → ∃ o', s'.heap.get? b = some o'
  keepX : ∀ b, X b → ¬ Y b → X' b
  newY : ∀ b, Y' b → Y b ∨ s.heap.get? b = none
  newX : ∀ b, X' b → X b ∨ s.heap.get? b = none
theorem Stp.refl {X Y : Addr → Prop} {s : Shared} : Stp X Y s X Y s := ⟨⟨s.heap, s.toks, rfl⟩, fun _ _ _ e => e, fun _ o e => ⟨o, e⟩, fun _ x _ => x, fun _ y => .inl y, fun _ x => .inl x⟩
theorem Stp.ks {X Y : Addr → Prop} {s s' : Shared} (k : Ks s s') : Stp X Y s X Y s' := by
  obtain ⟨h, tk, rfl, e⟩ := k
  exact ⟨⟨h, tk, rfl⟩, fun b o _ q => e b o q, fun b o q => ⟨o, e b o q⟩, fun _ x _ => x, fun _ y => .inl y, fun _ x => .inl x⟩
theorem Stp.trans {X Y X' Y' X'' Y'' : Addr → Prop} {s s' s'' : Shared} (low : ∀ b, X b → ∃ o, s.heap.get? b = some o) (a : Stp X Y s X' Y' s') (b : Stp X' Y' s' X'' Y'' s'') : Stp X Y s X'' Y'' s'' := by
  have ny : ∀ c o, ¬ Y c → s.heap.get? c = some o → ¬ Y' c := fun c o n e q => (a.newY c q).elim n fun z => by rw [e] at z; cases z
  refine ⟨?_, fun c o n e => b.mod c o (ny c o n e) (a.mod c o n e), fun c o e => let ⟨o', e'⟩ := a.alive c o e; b.alive c o' e', fun c x n => ?_, fun c y => ?_, fun c y => ?_⟩
  · obtain ⟨h, tk, rfl⟩ := a.same
    obtain ⟨h', tk', rfl⟩ := b.same
    exact ⟨h', tk', rfl⟩
  · obtain ⟨o, e⟩ := low c x
    exact b.keepX c (a.keepX c x n) (ny c o n e)
  · rcases b.newY c y with q | q
    · exact a.newY c q
    · refine .inr ?_
      cases e : s.heap.get? c with
      | none => rfl
      | some o => obtain ⟨o', e'⟩ := a.alive c o e; rw [q] at e'; cases e'
  · rcases b.newX c y with q | q
    · exact a.newX c q
    · refine .inr ?_
      cases e : s.heap.get? c with
      | none => rfl
      | some o => obtain ⟨o', e'⟩ := a.alive c o e; rw [q] at e'; cases e'
theorem Stp.fixed' {X Y X' Y' : Addr → Prop} {s s' : Shared} (sub : ∀ b, Y b → X b) (a : Stp X Y s X' Y' s') : Fixed X X' s.heap s'.heap :=
  ⟨fun b o n e => a.mod b o (fun y => n (sub b y)) e, fun b o e q => (a.newX b q).elim id fun z => by rw [e] at z; cases z⟩
theorem Stp.fixed {X Y X' Y' : Addr → Prop} {s s' : Shared} (sub : ∀ b, Y b → X b) (a : Stp X Y s X' Y' s') (x : ∀ b, X' b → X b ∨ s.heap.get? b = none) : Fixed X X' s.heap s'.heap :=
  ⟨fun b o n e => a.mod b o (fun y => n (sub b y)) e, fun b o e q => (x b q).elim id fun z => by rw [e] at z; cases z⟩


theorem ns_cell {h : Heap} {a c : Addr} {m : Str → Option Value} {v : Option Value} (n : h.Ns a m) (q : h.IsCell c v) : c ≠ a := fun e => by
  subst e
  obtain ⟨o, es, ep, ho, hd, _⟩ := n
  obtain ⟨o', ho', hd'⟩ := q
  rw [ho] at ho'; cases ho'
  rw [hd] at hd'; cases hd'
theorem body_cell {P : World} {X : Addr → Prop} {h : Heap} {a c : Addr} {d : D} {v : Option Value} (b : Body P X h a d) (q : h.IsCell c v) : a ≠ c := fun e => by
  subst e
  obtain ⟨o', ho', hd'⟩ := q
  cases d with
  | list ds => obtain ⟨vs, n, x, r⟩ := b; rw [x] at ho'; cases ho'; cases hd'
  | dict ds => obtain ⟨o, kvs, x, q, _⟩ := b; rw [x] at ho'; cases ho'; obtain ⟨es, ep, _, e, _⟩ := q; rw [e] at hd'; cases hd'
  | _ => exact b.elim
section
variable {M : Model} {A : Around} {E : Value → Shared → Prop} {s : Shared} {base : Heap} {env : Env} {B : Str → Bool} {X Y : Addr → Prop}
theorem alive_but {a : Addr} {h h' : Heap} (sb : Heap.SameBut a h h') (q : ∃ o, h'.get? a = some o) : ∀ b o, h.get? b = some o → ∃ o', h'.get? b = some o' := fun b o e => by
  by_cases hb : b = a
  · subst hb; exact q
  · exact ⟨o, (sb.2 b hb).trans e⟩
theorem Own.but {a : Addr} {h h' : Heap} (ow : Own base env B X Y h) (sb : Heap.SameBut a h h') (hn : a = env.locals → ∃ m, h'.Ns env.locals m) (hc : ∀ v, h.IsCell a v → ∃ v', h'.IsCell a v') : Own base env B X Y h' where
  sub := ow.sub
  loc := ow.loc
  ns := by
    by_cases e : a = env.locals
    · exact hn e
    · obtain ⟨m, n⟩ := ow.ns
      exact ⟨m, n.sameBut sb (Ne.symm e)⟩
  cells := fun x c k l y => by
    obtain ⟨⟨v, q⟩, u⟩ := ow.cells x c k l y
    refine ⟨?_, u⟩
    by_cases e : c = a
    · subst e; exact hc v q
    · exact ⟨v, q.sameBut sb e⟩
  cel := ow.cel
  bnd := ow.bnd
theorem store_core {x : Str} {v : Value} {Q : Unit → Shared → Prop} (hk : env.scope.kind = .function) (ow : Own base env B X Y s.heap) (hx : Bnd env Y x)
    (h : ∀ s', Stp X Y s X Y s' → Own base env B X Y s'.heap → VarIs s'.heap env x v → (∀ y u, y ≠ x → VarIs s.heap env y u → VarIs s'.heap env y u) →
      (∀ b o, s.heap.get? b = some o → b ≠ env.locals → (∀ u, o.data ≠ .cell u) → s'.heap.get? b = some o) → Q () s') : wpAny M A (storeName env x v) Q E s := by
  obtain ⟨m, n⟩ := ow.ns
  rcases hx with hl | ⟨hl, c, lc, yc⟩
  · refine wpAny_storeName_local hl n (fun h' n' sb => ?_) (by simp [hk])
    refine h _ ⟨⟨h', _, rfl⟩, fun b o ny e => (sb.2 b (fun q => ny (q ▸ ow.loc))).trans e, alive_but sb (let ⟨o, _, _, e, _⟩ := n'; ⟨o, e⟩), fun _ x _ => x, fun _ y => .inl y, fun _ x => .inl x⟩
      (ow.but sb (fun _ => ⟨_, n'⟩) fun v q => absurd rfl (ns_cell n q)) (.inl ⟨hl, _, n', by simp⟩) (fun y u ne q => ?_) fun b o e nl _ => (sb.2 b nl).trans e
    rcases q with ⟨k, m2, n2, e⟩ | ⟨k, c2, l2, q⟩
    · refine .inl ⟨k, _, n', ?_⟩
      simp only [if_neg ne]
      obtain ⟨o, es, ep, ho, hd, _, hm⟩ := n
      obtain ⟨o2, es2, ep2, ho2, hd2, _, hm2⟩ := n2
      rw [ho] at ho2; cases ho2; rw [hd] at hd2; cases hd2
      rw [← hm y, hm2 y]; exact e
    · exact .inr ⟨k, c2, l2, q.sameBut sb (ns_cell n q)⟩
  · obtain ⟨⟨v0, q0⟩, uq⟩ := ow.cells x c hl lc yc
    refine wpAny_storeName_cell hk hl lc q0 fun h' q' sb => ?_
    have ne := ns_cell n q0
    refine h _ ⟨⟨h', _, rfl⟩, fun b o ny e => (sb.2 b (fun q => ny (q ▸ yc))).trans e, alive_but sb (let ⟨o, e, _⟩ := q'; ⟨o, e⟩), fun _ x _ => x, fun _ y => .inl y, fun _ x => .inl x⟩
      (ow.but sb (fun e => absurd e ne) fun _ _ => ⟨_, q'⟩) (.inr ⟨hl, c, lc, q'⟩) (fun y u ny q => ?_) fun b o e nl nc => (sb.2 b (fun z => ?_)).trans e
    · rcases q with ⟨k, m2, n2, e⟩ | ⟨k, c2, l2, q⟩
      · exact .inl ⟨k, m2, n2.sameBut sb (Ne.symm ne), e⟩
      · exact .inr ⟨k, c2, l2, q.sameBut sb fun z => ny (uq y (z ▸ l2))⟩
    · subst z
      obtain ⟨o', e', d'⟩ := q0
      rw [e] at e'; cases e'
      exact nc _ d'
end
section
variable {M : Model} {w : World} {A : Around} {E : Value → Shared → Prop} {s : Shared} {base : Heap} {env : Env} {B : Str → Bool} {X Y : Addr → Prop} {V O : List (Str × D)}
theorem Stp.kept {X' Y' : Addr → Prop} {s' : Shared} (t : Stp X Y s X' Y' s') (S : Kp base s.heap) (sub : ∀ b, Y b → base.get? b = none) : Kp base s'.heap := fun b o e =>
  t.mod b o (fun y => by have := sub b y; rw [e] at this; cases this) (S b o e)
noncomputable def Kl (env : Env) (s s' : Shared) : Prop := ∀ b o, s.heap.get? b = some o → b ≠ env.locals → (∀ u, o.data ≠ .cell u) → s'.heap.get? b = some o
theorem store_V {x : Str} {d : D} {v : Value} {Q : Unit → Shared → Prop} (F : Frm w base env B V O X Y s) (hx : Bnd env Y x) (ho : O.lookup x = none) (r : Rep w X s.heap v d)
    (h : ∀ s', Frm w base env B ((x, d) :: V) O X Y s' → Stp X Y s X Y s' → Kl env s s' → Q () s') : wpAny M A (storeName env x v) Q E s := by
  refine store_core F.st.kind F.ow hx fun s' t ow vx vy keep => h s' ⟨?_, ow, ?_⟩ t keep
  · have fx : Fixed X X s.heap s'.heap := t.fixed (fun b y => (F.ow.sub b y).1) fun _ x => .inl x
    refine ⟨t.kept F.st.kept fun b y => (F.ow.sub b y).2, F.st.kind, F.st.glob, F.st.blt, fun b xb => let ⟨o, e⟩ := F.st.low b xb; t.alive b o e, fun y hy => let ⟨c, l, o, e⟩ := F.st.cel y hy; ⟨c, l, t.alive c o e⟩, F.st.sta, fun y d' l => ?_⟩
    by_cases e : y = x
    · subst e
      simp [List.lookup_cons] at l
      subst l
      exact ⟨v, vx, r.mono fx⟩
    · have : (y == x) = false := by simpa using e
      rw [List.lookup_cons, this] at l
      obtain ⟨u, a, b⟩ := F.st.vars y d' l
      exact ⟨u, vy y u e a, b.mono fx⟩
  · obtain ⟨ad, f, g⟩ := F.owd
    refine ⟨ad, fun y d' l => ?_, g⟩
    obtain ⟨a, b, c, e⟩ := f y d' l
    have ne : y ≠ x := fun z => by subst z; rw [ho] at l; cases l
    refine ⟨vy _ _ ne a, b, c, e.mono (t.fixed (fun b y => (F.ow.sub b y).1) fun _ x => .inl x) fun o q => keep _ o q c fun u du => ?_⟩
    exact body_cell e ⟨o, q, du⟩ rfl
end

section
variable {M : Model} {w : World} {A : Around} {E : Value → Shared → Prop} {s s' : Shared} {base : Heap} {env : Env} {B : Str → Bool} {X Y X' Y' : Addr → Prop} {V V' O O' : List (Str × D)}
theorem Own.ks {h h' : Heap} (ow : Own base env B X Y h) (k : Kp h h') : Own base env B X Y h' where
  sub := ow.sub
  loc := ow.loc
  ns := let ⟨m, n⟩ := ow.ns; ⟨m, n.keeps k⟩
  cells := fun x c a b y => let ⟨⟨v, q⟩, u⟩ := ow.cells x c a b y; ⟨⟨v, q.keeps k⟩, u⟩
  cel := ow.cel
  bnd := ow.bnd
theorem Frm.ks (F : Frm w base env B V O X Y s) (k : Ks s s') : Frm w base env B V O X Y s' where
  st := F.st.keeps k
  ow := F.ow.ks k.kp
  owd := by
    obtain ⟨ad, f, g⟩ := F.owd
    refine ⟨ad, fun x d l => ?_, g⟩
    obtain ⟨a, b, c, e⟩ := f x d l
    exact ⟨a.kp k.kp, b, c, e.mono (.kp k.kp) (k.kp _)⟩
theorem St.weak (S : St w base env V X s) (v : ∀ x d, V'.lookup x = some d → V.lookup x = some d) : St w base env V' X s :=
  ⟨S.kept, S.kind, S.glob, S.blt, S.low, S.cel, S.sta, fun x d l => S.vars x d (v x d l)⟩
theorem Frm.weak (F : Frm w base env B V O X Y s) (v : ∀ x d, V'.lookup x = some d → V.lookup x = some d) (o : ∀ x d, O'.lookup x = some d → O.lookup x = some d) : Frm w base env B V' O' X Y s where
  st := F.st.weak v
  ow := F.ow
  owd := by
    obtain ⟨ad, f, g⟩ := F.owd
    refine ⟨ad, fun x d l => f x d (o x d l), fun x y a b e => g x y ?_ ?_ e⟩
    · intro z
      cases h : O'.lookup x with
      | none => exact a h
      | some d => rw [o x d h] at z; cases z
    · intro z
      cases h : O'.lookup y with
      | none => exact b h
      | some d => rw [o y d h] at z; cases z
/-- a list or dict of our own is ours no more: from here on it is only read -/
theorem Frm.freeze {x : Str} {d : D} (F : Frm w base env B V O X Y s) (hx : O.lookup x = some d) (o : ∀ y e, O'.lookup y = some e → O.lookup y = some e ∧ y ≠ x) (sys : ∃ o, base.get? sysModules = some o) :
    ∃ X' Y', Frm w base env B ((x, d) :: V) O' X' Y' s ∧ Stp X Y s X' Y' s ∧ (∀ b, Y' b → Y b) ∧ ∀ b, X' b → X b := by
  obtain ⟨ad, f, g⟩ := F.owd
  obtain ⟨vx, yx, nl, bd⟩ := f x d hx
  refine ⟨fun b => X b ∧ b ≠ ad x, fun b => Y b ∧ b ≠ ad x, ⟨⟨F.st.kept, F.st.kind, F.st.glob, F.st.blt, fun b q => F.st.low b q.1, F.st.cel, fun b h => ⟨(F.st.sta b h).1, fun q => (F.st.sta b h).2 q.1⟩, fun y e l => ?_⟩, ⟨fun b q => ⟨⟨(F.ow.sub b q.1).1, q.2⟩, (F.ow.sub b q.1).2⟩, ⟨F.ow.loc, Ne.symm nl⟩, F.ow.ns, fun z c a b q => F.ow.cells z c a b q.1, fun z c a b => (F.ow.cel z c a b).imp (fun y => ⟨y, fun e => absurd e.symm (body_cell bd (F.ow.cells z c a b y).1.choose_spec)⟩) id, fun z h => (F.ow.bnd z h).imp id fun ⟨a, c, b, y⟩ => ⟨a, c, b, y, fun e => absurd e.symm (body_cell bd (F.ow.cells z c a b y).1.choose_spec)⟩⟩, ?_⟩,
    ⟨⟨s.heap, s.toks, rfl⟩, fun _ _ _ e => e, fun _ o e => ⟨o, e⟩, fun b q n => ⟨q, fun e => n (e ▸ yx)⟩, fun b q => .inl q.1, fun b q => .inl q.1⟩, fun b q => q.1, fun b q => q.1⟩
  · have fx : Fixed X (fun b => X b ∧ b ≠ ad x) s.heap s.heap := ⟨fun _ _ _ e => e, fun _ _ _ q => q.1⟩
    by_cases e' : y = x
    · subst e'
      simp at l
      subst l
      refine ⟨_, vx, ?_⟩
      have nx : ¬ (X (ad y) ∧ ad y ≠ ad y) := fun q => q.2 rfl
      cases d with
      | list ds => obtain ⟨vs, n, e, r⟩ := bd; exact .list nx e (r.mono fx)
      | dict ds =>
        obtain ⟨ob, kvs, e, q, k, r⟩ := bd
        refine .dict nx ?_ e q k (r.mono fx)
        have hb := (F.ow.sub _ yx).2
        apply Bool.eq_false_iff.mpr
        intro z
        have z' : ad y = sysModules := beq_iff_eq.mp z
        obtain ⟨o', e'⟩ := sys
        rw [z', e'] at hb
        cases hb
      | _ => exact bd.elim
    · have : (y == x) = false := by simpa using e'
      rw [List.lookup_cons, this] at l
      obtain ⟨u, a, b⟩ := F.st.vars y e l
      exact ⟨u, a, b.mono fx⟩
  · refine ⟨ad, fun y e l => ?_, fun y z a b => g y z (fun h => ?_) fun h => ?_⟩
    · obtain ⟨l', ne⟩ := o y e l
      obtain ⟨a, b, c, q⟩ := f y e l'
      refine ⟨a, ⟨b, fun h => ne (g y x (by rw [l']; simp) (by rw [hx]; simp) h)⟩, c, q.mono ⟨fun _ _ _ e => e, fun _ _ _ q => q.1⟩ fun _ e => e⟩
    · cases q : O'.lookup y with
      | none => exact a q
      | some d => rw [(o y d q).1] at h; cases h
    · cases q : O'.lookup z with
      | none => exact b q
      | some d => rw [(o z d q).1] at h; cases h
end
end Mine
end
section
open PySem PySem.W PyProof.Rows
namespace Mine
noncomputable def PlainIt (o : Obj) : Prop := o.cls = .type "list_iterator" ∨ o.cls = .type "range_iterator" ∨ o.cls = .type "dict_keyiterator"
noncomputable def ItOK (prog : Program) (w : World) (X : Addr → Prop) (I : Addr) (ds : List D) (i : Nat) (h : Heap) : Prop :=
  ∃ (fp : List Addr) (P : Nat → Value → Prop) (St : Nat → Heap → Prop), (∀ A : Around, A.handled = none → Walks prog w A I fp [I] ds.length P St) ∧ St i h ∧ (∀ j h', St j h' → ∃ o, h'.get? I = some o ∧ PlainIt o) ∧
    (∀ b ∈ fp, (b = I ∨ ¬ X b) ∧ ∃ o, h.get? b = some o) ∧ ∀ j v, j < ds.length → P j v → ∃ d, ds[j]? = some d ∧ Rep w X h v d
section
variable {prog : Program} {w : World} {A : Around} {E : Value → Shared → Prop} {s : Shared} {X X' : Addr → Prop} {I : Addr} {ds : List D} {i : Nat}
theorem ItOK.mono {h h' : Heap} (hh : A.handled = none) (t : ItOK prog w X I ds i h) (f : Fixed X X' h h') (e : ∀ o, h.get? I = some o → h'.get? I = some o) : ItOK prog w X' I ds i h' := by
  obtain ⟨fp, P, St, W, st, al, ff, pp⟩ := t
  have kb : ∀ b ∈ fp, ∀ o, h.get? b = some o → h'.get? b = some o := fun b hb o q => by
    rcases (ff b hb).1 with z | z
    · subst z; exact e o q
    · exact f.1 b o z q
  refine ⟨fp, P, St, W, (W A hh).frame i h h' st kb, al, fun b hb => ?_, fun j v jl p => ?_⟩
  · obtain ⟨z, o, q⟩ := ff b hb
    exact ⟨z.imp id fun z y => z (f.2 b o q y), o, kb b hb o q⟩
  · obtain ⟨d, l, r⟩ := pp j v jl p
    exact ⟨d, l, r.mono f⟩
theorem ItOK.item {Q : Option Value → Shared → Prop} (hh : A.handled = none) (t : ItOK prog w X I ds i s.heap) (hi : i < ds.length) (xi : X I)
    (h : ∀ d v h' tk, ds[i]? = some d → Rep w X h' v d → ItOK prog w X I ds (i + 1) h' → (∀ b o, b ≠ I → s.heap.get? b = some o → h'.get? b = some o) → (∃ o, h'.get? I = some o ∧ PlainIt o) → Q (some v) { s with heap := h', toks := tk }) :
    wpAny (model prog w) A (pyNext (.ref I)) Q E s := by
  obtain ⟨fp, P, St, W, st, al, ff, pp⟩ := t
  refine (W A hh).item i s Q E hi st fun v h' tk p st' kp => ?_
  have k' : ∀ b o, b ≠ I → s.heap.get? b = some o → h'.get? b = some o := fun b o n => kp b o (by simpa using n)
  have fx : Fixed X X s.heap h' := ⟨fun b o n e => k' b o (fun z => n (z ▸ xi)) e, fun _ _ _ q => q⟩
  obtain ⟨d, l, r⟩ := pp i v hi p
  refine h d v h' tk l (r.mono fx) ⟨fp, P, St, W, st', al, fun b hb => ?_, fun j v jl p => ?_⟩ k' (al _ _ st')
  · obtain ⟨z, o, q⟩ := ff b hb
    by_cases e : b = I
    · subst e; exact ⟨.inl rfl, let ⟨o, e, _⟩ := al _ _ st'; ⟨o, e⟩⟩
    · exact ⟨z, o, k' b o e q⟩
  · obtain ⟨d, l, r⟩ := pp j v jl p
    exact ⟨d, l, r.mono fx⟩
theorem ItOK.done {Q : Option Value → Shared → Prop} (hh : A.handled = none) (t : ItOK prog w X I ds ds.length s.heap)
    (h : ∀ h' tk, (∀ b o, b ≠ I → s.heap.get? b = some o → h'.get? b = some o) → Q none { s with heap := h', toks := tk }) : wpAny (model prog w) A (pyNext (.ref I)) Q E s := by
  obtain ⟨fp, P, St, W, st, al, ff, pp⟩ := t
  exact (W A hh).done s Q E st fun h' tk kp => h h' tk fun b o n => kp b o (by simpa using n)
theorem ItOK.self {Q : Value → Shared → Prop} (hh : A.handled = none) (t : ItOK prog w X I ds i s.heap) (h : Q (.ref I) s) : wpAny (model prog w) A (pyIter (.ref I)) Q E s := by
  obtain ⟨fp, P, St, W, st, al, ff, pp⟩ := t
  exact (W A hh).self i s Q E st h
end

noncomputable def EvIt (prog : Program) (w : World) (base : Heap) (k : Nat) (env : Env) (V : List (Str × D)) (e : Expr) (ds : List D) : Prop :=
  Seal (∀ (A : Around) (X : Addr → Prop) (s : Shared) (Q : Value → Shared → Prop) (E : Value → Shared → Prop), GA k A → St w base env V X s →
    (∀ I s', ItOK prog w (fun b => X b ∨ b = I) I ds 0 s'.heap → s.heap.get? I = none → (∃ o, s'.heap.get? I = some o) → Ks s s' → Q (.ref I) s') → wpAny (model prog w) A (eval e env) (fun x s₁ => wpAny (model prog w) A (pyIter x) Q E s₁) E s)
theorem Ks.none {s s' : Shared} (k : Ks s s') {b : Addr} (h : s'.heap.get? b = none) : s.heap.get? b = none := by
  cases e : s.heap.get? b with
  | none => rfl
  | some o => rw [k.kp b o e] at h; cases h
theorem get_size (h : Heap) : h.get? h.objs.size = none := by
  cases e : h.get? h.objs.size with
  | none => rfl
  | some o => exact absurd (Heap.lt_size e) (Nat.lt_irrefl _)
section
variable {prog : Program} {w : World} {base : Heap} {k : Nat} {env : Env} {V : List (Str × D)}
theorem EvIt.list {e : Expr} {ds : List D} (h : Ev prog w base k env V e (.list ds)) : EvIt prog w base k env V e ds := Seal.mk fun A X s Q E g S q => by
  refine h.out A X s _ E g S fun v s' r ks => ?_
  obtain ⟨a, vs, n, rfl, nx, ha, rs⟩ := r.inv
  refine wpAny_pyIter_list ⟨_, ha, rfl, n, rfl⟩ ?_
  have ne : a ≠ s'.heap.objs.size := Nat.ne_of_lt (Heap.lt_size ha)
  refine q _ _ ⟨[s'.heap.objs.size, a], fun j v => vs.toArray[j]? = some v, fun i h => h.IsListIter s'.heap.objs.size a i ∧ h.IsList a vs.toArray, fun A hh => ?_, ⟨⟨_, Heap.get?_push_size _ rfl, rfl, rfl⟩, ⟨_, Heap.get?_push_of_some _ ha, rfl, n, rfl⟩⟩,
    fun j h' st => let ⟨o, e, c, _⟩ := st.1; ⟨o, e, .inl c⟩, fun b hb => ?_, fun j v hj p => ?_⟩ (ks.none (get_size _)) ⟨_, Heap.get?_push_size _ rfl⟩ (ks.then (.push0 s' _))
  · have := Walks.list (prog := prog) (w := w) hh s'.heap.objs.size a ne vs.toArray
    have hz : vs.toArray.size = ds.length := by simp [rs.length]
    rwa [hz] at this
  · simp only [List.mem_cons, List.not_mem_nil, or_false] at hb
    rcases hb with rfl | rfl
    · exact ⟨.inl rfl, _, Heap.get?_push_size _ rfl⟩
    · exact ⟨.inr fun z => z.elim nx ne, _, Heap.get?_push_of_some _ ha⟩
  · have p' : vs[j]? = some v := by simpa using p
    have hl := rs.length
    obtain ⟨u, e1, e2⟩ := rs.get (i := j) (d := ds[j]) (by simp [hj])
    rw [p'] at e1
    cases e1
    exact ⟨_, by simp [hj], e2.mono ⟨fun _ _ _ e => Heap.get?_push_of_some _ e, fun b o e z => z.elim id fun z => absurd (Heap.lt_size e) (by rw [z]; exact Nat.lt_irrefl _)⟩⟩
theorem EvIt.range {e : Expr} {rp pos : Pos} {n : Nat} (hg : GlobIs prog w base "range" (.type "range")) (hk : env.kindOf "range" = some .globalImplicit) (h : Ev prog w base k env V e (.int n))
    (he : starEach [e] env = [(false, eval e env)] := by rfl) (hn : (n : Int) < 2 ^ 62 := by decide) :
    EvIt prog w base k env V (.Call (.Name "range" rp) [e] [] pos) ((List.range n).map fun i : Nat => .int (i : Int)) := Seal.mk fun A X s Q E g S q => by
  refine Call_Name rfl (hg.out A env s _ E rp S.kind S.glob S.blt hk S.kept ?_)
  refine PyProof.Rows.callWith_type1 (h := ?_) (he := he) (hplain := by rfl)
  refine (Evs.cons h Evs.nil (by rw [he]; rfl)).out A X s _ E pos g S fun vs s' r ks => ?_
  obtain ⟨_, rfl, a⟩ := r.inv1
  obtain ⟨t, rfl⟩ := a.inv
  refine call_range_1 (wpAny_pyIter_range (IsRange.new ..) (small_one (by decide) (by decide) (by omega) hn) ?_)
  have hsz : Builtin.Range.rangeSize 0 (n : Int) 1 = (n : Int) := by rw [rangeSize_one]; split <;> omega
  generalize e1 : s'.heap.push { cls := .type "range", data := .fields #[.int 0 s'.toks, .int n t, .int 1 (s'.toks + 1)] } = h1
  have hk1 : Kp s'.heap h1 := fun b o e => e1 ▸ Heap.get?_push_of_some _ e
  have sz : h1.objs.size = s'.heap.objs.size + 1 := by rw [← e1, Heap.size_push]
  refine q h1.objs.size _ (⟨[h1.objs.size], fun j v => ∃ t, v = .int (0 + (j : Int) * 1) t, fun i h => IsRangeIter h h1.objs.size (0 + (i : Nat) * 1) ((n : Int) - (i : Nat)) 1, fun A hh => ?_, ?_, fun j h' st => ⟨_, st, .inr (.inl rfl)⟩, fun b hb => ?_, fun j v hj p => ?_⟩) ?_ ⟨_, Heap.get?_push_size _ rfl⟩ ?_
  · have := Walks.range (prog := prog) (w := w) hh h1.objs.size 0 1 n
    simpa using this
  · rw [hsz]
    have := Heap.get?_push_size h1 (o := { cls := .type "range_iterator", data := .fields #[rawInt 0, rawInt (n : Int), rawInt 1] }) rfl
    simpa [IsRangeIter] using this
  · simp only [List.mem_cons, List.not_mem_nil, or_false] at hb
    subst hb
    exact ⟨.inl rfl, _, Heap.get?_push_size _ rfl⟩
  · obtain ⟨t', rfl⟩ := p
    refine ⟨.int j, by simp at hj; simp [hj], ?_⟩
    rw [show (0 + (j : Int) * 1) = j by omega]
    exact .int _ _
  · refine ks.none ?_
    cases e : s'.heap.get? h1.objs.size with
    | none => rfl
    | some o => exact absurd (Heap.lt_size e) (by rw [sz]; exact Nat.not_lt.mpr (Nat.le_succ _))
  · exact ks.then ⟨h1.push _, s'.toks + 1 + 1, rfl, fun b o e => Heap.get?_push_of_some _ (hk1 b o e)⟩
end
end Mine
end
section
open PySem PySem.W PyProof.Rows
namespace Mine
section
variable {prog : Program} {w : World} {A : Around} {E : Value → Shared → Prop} {s s' : Shared} {base : Heap} {env : Env} {B : Str → Bool} {X Y X' : Addr → Prop} {V O : List (Str × D)} {I : Addr}
theorem VarIs.at {h h' : Heap} {y : Str} {v : Value} (a : VarIs h env y v) (l : ∀ o, h.get? env.locals = some o → h'.get? env.locals = some o) (c : ∀ c, env.kindOf y = some .cell → env.cells.lookup y = some c → ∀ o, h.get? c = some o → h'.get? c = some o) : VarIs h' env y v := by
  rcases a with ⟨k, m, ⟨o, es, ep, e, r⟩, q⟩ | ⟨k, d, e, ⟨o, q, r⟩⟩
  · exact .inl ⟨k, m, ⟨o, es, ep, l o e, r⟩, q⟩
  · exact .inr ⟨k, d, e, ⟨o, c d k e o q, r⟩⟩
theorem Frm.touch {h' : Heap} {tk : Nat} (F : Frm w base env B V O X Y s) (nI : ¬ Y I) (xI : X I) (bI : base.get? I = none) (kp : ∀ b o, b ≠ I → s.heap.get? b = some o → h'.get? b = some o)
    (sub : ∀ b, X' b → X b) (sup : ∀ b, Y b → X' b) (ali : X' I → ∃ o, h'.get? I = some o) : Frm w base env B V O X' Y { s with heap := h', toks := tk } := by
  have fx : Fixed X X' s.heap h' := ⟨fun b o n e => kp b o (fun q => n (q ▸ xI)) e, fun b o e q => sub b q⟩
  have cI : ∀ y c, env.kindOf y = some .cell → env.cells.lookup y = some c → c ≠ I := fun y c k l q => by
    rcases F.ow.cel y c k l with z | ⟨o, z⟩
    · exact nI (q ▸ z)
    · rw [q, bI] at z; cases z
  have lI : env.locals ≠ I := fun q => nI (q ▸ F.ow.loc)
  have vt : ∀ y v, VarIs s.heap env y v → VarIs h' env y v := fun y v a => a.at (fun o e => kp _ o lI e) fun c k l o e => kp c o (cI y c k l) e
  refine ⟨⟨fun b o e => kp b o (fun q => by rw [q, bI] at e; cases e) (F.st.kept b o e), F.st.kind, F.st.glob, F.st.blt, fun b q => ?_, fun y k => ?_, fun b h => ⟨(F.st.sta b h).1, fun q => (F.st.sta b h).2 (sub b q)⟩, fun y d l => ?_⟩, ⟨fun b q => ⟨sup b q, (F.ow.sub b q).2⟩, F.ow.loc, ?_, fun y c k l q => ?_, F.ow.cel, F.ow.bnd⟩, ?_⟩
  · by_cases e : b = I
    · subst e; exact ali q
    · obtain ⟨o, z⟩ := F.st.low b (sub b q); exact ⟨o, kp b o e z⟩
  · obtain ⟨c, l, o, e⟩ := F.st.cel y k
    exact ⟨c, l, o, kp c o (cI y c k l) e⟩
  · obtain ⟨v, a, r⟩ := F.st.vars y d l
    exact ⟨v, vt y v a, r.mono fx⟩
  · obtain ⟨m, n⟩ := F.ow.ns
    exact ⟨m, n.at' fun o e => kp _ o lI e⟩
  · obtain ⟨⟨v, o, e, d⟩, u⟩ := F.ow.cells y c k l q
    exact ⟨⟨v, o, kp c o (cI y c k l) e, d⟩, u⟩
  · obtain ⟨ad, f, g⟩ := F.owd
    refine ⟨ad, fun y d l => ?_, g⟩
    obtain ⟨a, b, c, e⟩ := f y d l
    exact ⟨vt _ _ a, b, c, e.mono fx fun o q => kp _ o (fun z => nI (z ▸ b)) q⟩
theorem Frm.add (F : Frm w base env B V O X Y s) (nI : s.heap.get? I = none) (k : Ks s s') (aI : ∃ o, s'.heap.get? I = some o) : Frm w base env B V O (fun b => X b ∨ b = I) Y s' := by
  have fx : Fixed X (fun b => X b ∨ b = I) s.heap s'.heap := ⟨fun b o _ e => k.kp b o e, fun b o e q => q.elim id fun z => by rw [z, nI] at e; cases e⟩
  have F' := F.ks k
  refine ⟨⟨F'.st.kept, F'.st.kind, F'.st.glob, F'.st.blt, fun b q => q.elim (F'.st.low b) fun z => z ▸ aI, F'.st.cel, fun b h => ⟨(F.st.sta b h).1, fun q => q.elim (F.st.sta b h).2 fun z => by obtain ⟨o, e⟩ := (F.st.sta b h).1; have := F.st.kept b o e; rw [z, nI] at this; cases this⟩, fun y d l => ?_⟩, ⟨fun b q => ⟨.inl (F'.ow.sub b q).1, (F'.ow.sub b q).2⟩, F'.ow.loc, F'.ow.ns, F'.ow.cells, F'.ow.cel, F'.ow.bnd⟩, ?_⟩
  · obtain ⟨v, a, r⟩ := F.st.vars y d l
    exact ⟨v, a.kp k.kp, r.mono fx⟩
  · obtain ⟨ad, f, g⟩ := F.owd
    refine ⟨ad, fun y d l => ?_, g⟩
    obtain ⟨a, b, c, e⟩ := f y d l
    exact ⟨a.kp k.kp, b, c, e.mono fx (k.kp _)⟩
theorem go_plain {o : Obj} {target : Expr} {v : Value} {Q : Unit → Shared → Prop} {M : Model} (e : s.heap.get? I = some o) (p : PlainIt o) (h : Q () s) : wpAny M A (letOwnedTupleGo target (.ref I) v) Q E s := by
  unfold letOwnedTupleGo
  have key : ∀ a : Addr, wpAny M A (do
      let o ← load I
      match o.cls, o.data with
      | .type n, .fields vs =>
        if ["enumerate", "zip", "dict_itemiterator", "dict_reverseitemiterator", "odict_iterator", "itertools.zip_longest", "itertools.pairwise"].contains n && vs[0]? == some (rawInt a) then
          rule "for.unpacks-the-owned-tuple"
          updateField I 0 .none
      | _, _ => pure ()) Q E s := fun a => by
    refine wpAny_bind (wpAny_load e ?_)
    obtain ⟨c, d, dt, sl⟩ := o
    rcases p with p | p | p <;> (simp only at p; subst p; cases dt <;> exact wpAny_pure h)
  cases target <;> first | exact wpAny_pure h | (cases v <;> first | exact key _ | exact wpAny_pure h)
end

/-! the turn of a list comprehension at any depth -/
theorem turn_last {elt target iter : Expr} {ifs : List Expr} {gens : List Comprehension} {scope : Scope} {pos : Pos} {it acc : Value} {env : Env} {j : Nat} (h : gens[j]? = some ⟨target, iter, ifs, 0⟩) (h' : gens[j + 1]? = none) :
    compTurn (.ListComp elt gens scope pos) j it acc env = (do
      standAt iter.pos
      match ← pyNext it with
      | none => pure (.done .next)
      | some v =>
        letOwnedTupleGo target it v
        assign target env v
        let mut ok := true
        for c in ifs do
          if ok then ok ← isTrue c env (eval c env)
        if ok then
          (do let _ ← call (.builtin "list.append") [acc, ← eval elt env])
        again (.compLoop (.ListComp elt gens scope pos) j it acc env)) := by
  delta compTurn
  simp only [h, h']
  rfl
theorem turn_in {elt target iter t' i' : Expr} {ifs ifs' : List Expr} {gens : List Comprehension} {scope : Scope} {pos : Pos} {it acc : Value} {env : Env} {j : Nat} (h : gens[j]? = some ⟨target, iter, ifs, 0⟩) (h' : gens[j + 1]? = some ⟨t', i', ifs', 0⟩) :
    compTurn (.ListComp elt gens scope pos) j it acc env = (do
      standAt iter.pos
      match ← pyNext it with
      | none => pure (.done .next)
      | some v =>
        letOwnedTupleGo target it v
        assign target env v
        let mut ok := true
        for c in ifs do
          if ok then ok ← isTrue c env (eval c env)
        if ok then
          let x ← eval i' env
          standAt i'.pos
          let x ← foldedSetIterable i' env x
          let _ ← runOwn (.compStart (.ListComp elt gens scope pos) (j + 1) (← holding [x] (pyIter x)) acc env) env
        again (.compLoop (.ListComp elt gens scope pos) j it acc env)) := by
  delta compTurn
  simp only [h, h']
  rfl
end Mine
end
section
open PySem PySem.W PyProof.Rows
namespace Mine
section
variable {prog : Program} {w : World} {A : Around} {E : Value → Shared → Prop} {s s' : Shared} {base : Heap} {env : Env} {B : Str → Bool} {X Y X' : Addr → Prop} {V O : List (Str × D)} {a : Addr} {h' : Heap}
theorem VarIs.poke {y : Str} {v : Value} (q : VarIs s.heap env y v) (nl : a ≠ env.locals) (nc : ∀ v, ¬ s.heap.IsCell a v) (sb : Heap.SameBut a s.heap h') : VarIs h' env y v := by
  rcases q with ⟨k, m, n, e⟩ | ⟨k, c, l, q⟩
  · exact .inl ⟨k, m, n.sameBut sb (Ne.symm nl), e⟩
  · exact .inr ⟨k, c, l, q.sameBut sb fun e => nc _ (e ▸ q)⟩
theorem St.poke (S : St w base env V X s) (xa : X a) (ba : base.get? a = none) (nl : a ≠ env.locals) (nc : ∀ v, ¬ s.heap.IsCell a v) (sb : Heap.SameBut a s.heap h') (al : ∃ o, h'.get? a = some o) : St w base env V X { s with heap := h' } := by
  have fx : Fixed X X s.heap h' := ⟨fun b o n e => (sb.2 b fun z => n (z ▸ xa)).trans e, fun _ _ _ q => q⟩
  refine ⟨fun b o e => (sb.2 b fun z => by rw [z, ba] at e; cases e).trans (S.kept b o e), S.kind, S.glob, S.blt, fun b q => let ⟨o, e⟩ := S.low b q; alive_but sb al b o e, fun y k => let ⟨c, l, o, e⟩ := S.cel y k; ⟨c, l, alive_but sb al c o e⟩, S.sta, fun y d l => ?_⟩
  obtain ⟨v, q, r⟩ := S.vars y d l
  exact ⟨v, q.poke nl nc sb, r.mono fx⟩
theorem Own.poke (ow : Own base env B X Y s.heap) (nl : a ≠ env.locals) (nc : ∀ v, ¬ s.heap.IsCell a v) (sb : Heap.SameBut a s.heap h') : Own base env B X Y h' :=
  ow.but sb (fun e => absurd e nl) fun v q => absurd q (nc v)
theorem body_nc {d : D} {h : Heap} (b : Body w X h a d) : ∀ v, ¬ h.IsCell a v := fun v q => body_cell b q rfl
theorem Frm.poke (F : Frm w base env B V [] X Y s) (ya : Y a) (nl : a ≠ env.locals) (nc : ∀ v, ¬ s.heap.IsCell a v) (sb : Heap.SameBut a s.heap h') (al : ∃ o, h'.get? a = some o) : Frm w base env B V [] X Y { s with heap := h' } :=
  ⟨F.st.poke (F.ow.sub a ya).1 (F.ow.sub a ya).2 nl nc sb al, F.ow.poke nl nc sb, ⟨fun _ => 0, ⟨fun _ _ l => by simp at l, fun _ _ n => (n rfl).elim⟩⟩⟩
/-- our list takes one more -/
theorem append_own {x : Value} {d : D} {ds : List D} {Q : Value → Shared → Prop} (F : Frm w base env B V [] X Y s) (ya : Y a) (nl : a ≠ env.locals) (bd : Body w X s.heap a (.list ds)) (r : Rep w X s.heap x d) (hsz : ds.length ≤ sizeLine)
    (h : ∀ h', Frm w base env B V [] X Y { s with heap := h' } → Body w X h' a (.list (ds ++ [d])) → Heap.SameBut a s.heap h' → Q .none { s with heap := h' }) : wpAny (model prog w) A (call (.builtin "list.append") [.ref a, x]) Q E s := by
  have nc := body_nc bd
  obtain ⟨vs, n, e, rs⟩ := bd
  refine wpAny_list_append_plain ⟨n, e⟩ (fun h' ⟨n', e'⟩ sb => ?_) (by rw [List.size_toArray, rs.length]; exact hsz)
  have xa := (F.ow.sub a ya).1
  have fx : Fixed X X s.heap h' := ⟨fun b o n e => (sb.2 b fun z => n (z ▸ xa)).trans e, fun _ _ _ q => q⟩
  refine h h' (F.poke ya nl nc sb ⟨_, e'⟩) ⟨vs ++ [x], n', by rw [e']; simp [listObj], ?_⟩ sb
  exact (rs.mono fx).append (.cons (r.mono fx) .nil)
end

section
variable (prog : Program) (w : World) (base : Heap)
noncomputable def Tst (k : Nat) (env : Env) (V : List (Str × D)) (ifs : List Expr) (b : Bool) : Prop :=
  Seal (∀ (A : Around) (X : Addr → Prop) (s : Shared) (Q : Bool → Shared → Prop) (E : Value → Shared → Prop), GA k A → St w base env V X s →
    (∀ s', Ks s s' → Q b s') → wpAny (model prog w) A (forIn ifs true fun c r => if r = true then do let ok ← isTrue c env (eval c env); pure (ForInStep.yield ok) else pure (ForInStep.yield r)) Q E s)
noncomputable def Tgt (k : Nat) (env : Env) (B : Str → Bool) (V O : List (Str × D)) (tgt : Expr) (d : D) (V' : List (Str × D)) : Prop :=
  Seal (∀ (A : Around) (X Y : Addr → Prop) (s : Shared) (v : Value) (Q : Unit → Shared → Prop) (E : Value → Shared → Prop), GA k A → Frm w base env B V O X Y s → Rep w X s.heap v d →
    (∀ s', Frm w base env B V' O X Y s' → Stp X Y s X Y s' → Kl env s s' → Q () s') → wpAny (model prog w) A (assign tgt env v) Q E s)
/-- the loop of generator j, over ds -/
noncomputable def CL (k : Nat) (env : Env) (B : Str → Bool) (e : Expr) (j : Nat) (V : List (Str × D)) (ds out : List D) : Prop :=
  Seal (∀ (A : Around) (X Y : Addr → Prop) (s : Shared) (R : Result → Shared → Prop) (I Dd : Addr) (all : List D) (i : Nat) (acc : List D), GA k A → Frm w base env B V [] X Y s → X I → ¬ Y I → base.get? I = none → ItOK prog w X I all i s.heap → i ≤ all.length → all.drop i = ds →
    Y Dd → Dd ≠ env.locals → Body w X s.heap Dd (.list acc) → acc.length + out.length ≤ sizeLine →
    (∀ h' tk, Frm w base env B V [] (fun b => X b ∧ b ≠ I) Y { s with heap := h', toks := tk } → Body w (fun b => X b ∧ b ≠ I) h' Dd (.list (acc ++ out)) → (∀ b o, ¬ Y b → b ≠ I → s.heap.get? b = some o → h'.get? b = some o) →
      R (.ok .next) { s with heap := h', toks := tk }) → codeAny (model prog w) A (.compLoop e j (.ref I) (.ref Dd) env) R s)
end

section
variable {prog : Program} {w : World} {base : Heap} {k : Nat} {env : Env} {B : Str → Bool} {V V' O : List (Str × D)}
theorem Tst.nil : Tst prog w base k env V [] true := Seal.mk fun _ _ s _ _ _ _ q => wpAny_tests_nil (q s (.same s))
theorem Tst.one {c : Expr} {b : Bool} (h : Tr prog w base k env V c b) : Tst prog w base k env V [c] b := Seal.mk fun A X s Q E g S q => wpAny_tests_one (h.out A X s Q E g S q)
theorem Tgt.name {x : Str} {p : Pos} {d : D} (hb : B x = true) (ho : O.lookup x = none) : Tgt prog w base k env B V O (.Name x p) d ((x, d) :: V) := Seal.mk fun A X Y s v Q E g F r q =>
  wpAny_assign_Name (store_V F (F.ow.bnd x hb) ho r q)

theorem comp_turn_last {A : Around} {s : Shared} {R : Result → Shared → Prop} {elt target iter : Expr} {ifs : List Expr} {gens : List Comprehension} {scope : Scope} {pos : Pos} {it acc : Value} {j : Nat} (hj : gens[j]? = some ⟨target, iter, ifs, 0⟩) (hn : gens[j + 1]? = none)
    (h : ∀ E, wpAny (model prog w) A (pyNext it) (fun r s₁ => match r with
      | none => R (.ok .next) s₁
      | some v => wpAny (model prog w) A (letOwnedTupleGo target it v) (fun _ s₂ => wpAny (model prog w) A (assign target env v) (fun _ s₃ =>
          wpAny (model prog w) A (forIn ifs true fun c r => if r = true then do let ok ← isTrue c env (eval c env); pure (ForInStep.yield ok) else pure (ForInStep.yield r)) (fun ok s₄ =>
            if ok = true then wpAny (model prog w) A (eval elt env) (fun x s₅ => wpAny (model prog w) A (call (.builtin "list.append") [acc, x]) (fun _ s₆ => codeAny (model prog w) A (.compLoop (.ListComp elt gens scope pos) j it acc env) R s₆) E s₅) E s₄
            else codeAny (model prog w) A (.compLoop (.ListComp elt gens scope pos) j it acc env) R s₄) E s₃) E s₂) E s₁) E s) :
    codeAny (model prog w) A (.compLoop (.ListComp elt gens scope pos) j it acc env) R s := by
  refine codeAny_of_tree ?_
  show wpAny _ A ((compTurn (.ListComp elt gens scope pos) j it acc env).onRaise (fun x => do noteFrame x env; theTreesLotGoes x)) _ _ s
  refine wpAny_noted ?_
  rw [turn_last hj hn]
  refine wpAny_bind (wpAny_standAt (wpAny_bind (wpAny_mono (h _) (fun r s₁ h₁ => ?_) fun _ _ h' => h')))
  cases r with
  | none => exact wpAny_pure h₁
  | some v =>
    refine wpAny_bind (wpAny_mono h₁ (fun _ s₂ h₂ => wpAny_bind (wpAny_mono h₂ (fun _ s₃ h₃ => wpAny_bind (wpAny_mono h₃ (fun ok s₄ h₄ => ?_) fun _ _ h' => h')) fun _ _ h' => h')) fun _ _ h' => h')
    cases ok with
    | false => exact wpAny_pure ⟨rfl, h₄⟩
    | true =>
      exact wpAny_bind (wpAny_bind (wpAny_mono h₄ (fun x s₅ h₅ => wpAny_bind (wpAny_mono h₅ (fun _ s₆ h₆ => wpAny_pure (wpAny_pure ⟨rfl, h₆⟩)) fun _ _ h' => h')) fun _ _ h' => h'))
theorem comp_start {A : Around} {s : Shared} {R : Result → Shared → Prop} {elt : Expr} {gens : List Comprehension} {g : Comprehension} {scope : Scope} {pos : Pos} {it acc : Value} {j : Nat} (hj : gens[j]? = some g) (h0 : g.is_async = 0)
    (h : codeAny (model prog w) A (.compLoop (.ListComp elt gens scope pos) j it acc env) R s)
    (h' : ∀ E, wpAny (model prog w) A (pyIter it) (fun it' s' => codeAny (model prog w) A (.compLoop (.ListComp elt gens scope pos) j it' acc env) R s') E s) :
    codeAny (model prog w) A (.compStart (.ListComp elt gens scope pos) j it acc env) R s := by
  refine codeAny_of_tree ?_
  show wpAny _ _ ((compStart (.ListComp elt gens scope pos) j it acc env).onRaise (fun x => do noteFrame x env; standAt theWindowsPlace)) _ _ s
  refine wpAny_notedAt ?_
  unfold compStart
  have hc : clausesOf (.ListComp elt gens scope pos) = gens := rfl
  rw [hc, hj]
  simp only [Option.elim, h0]
  show wpAny _ _ (ask >>= _) _ _ s
  refine wpAny_bind (wpAny_askSetting (wpAny_ite ?_))
  split
  · first
      | exact wpAny_bind (wpAny_pure (wpAny_pure (And.intro rfl h)))
      | exact wpAny_pure (And.intro rfl h)
  · refine wpAny_bind (wpAny_rule ?_)
    first
      | exact wpAny_bind (wpAny_standAt (wpAny_bind (wpAny_mono (h' _) (fun it' s' h' => wpAny_pure (And.intro rfl h')) fun _ _ x => x)))
      | (show wpAny _ _ (standAt _ >>= _) _ _ s; exact wpAny_bind (wpAny_standAt (wpAny_bind (wpAny_mono (h' _) (fun it' s' h' => wpAny_pure (And.intro rfl h')) fun _ _ x => x))))
theorem comp_turn_in {A : Around} {s : Shared} {R : Result → Shared → Prop} {elt target iter t' i' : Expr} {ifs ifs' : List Expr} {gens : List Comprehension} {scope : Scope} {pos : Pos} {it acc : Value} {j : Nat} (hj : gens[j]? = some ⟨target, iter, ifs, 0⟩) (hn : gens[j + 1]? = some ⟨t', i', ifs', 0⟩)
    (hs : ∀ x, foldedSetIterable i' env x = pure x)
    (h : ∀ E, wpAny (model prog w) A (pyNext it) (fun r s₁ => match r with
      | none => R (.ok .next) s₁
      | some v => wpAny (model prog w) A (letOwnedTupleGo target it v) (fun _ s₂ => wpAny (model prog w) A (assign target env v) (fun _ s₃ =>
          wpAny (model prog w) A (forIn ifs true fun c r => if r = true then do let ok ← isTrue c env (eval c env); pure (ForInStep.yield ok) else pure (ForInStep.yield r)) (fun ok s₄ =>
            if ok = true then wpAny (model prog w) A (eval i' env) (fun x s₅ => wpAny (model prog w) A (pyIter x) (fun it' s₆ => ∀ E' : Value → Shared → Prop, codeAny (model prog w) A (.compStart (.ListComp elt gens scope pos) (j + 1) it' acc env) (fun r s₇ => match r with
                | .ok _ => codeAny (model prog w) A (.compLoop (.ListComp elt gens scope pos) j it acc env) R s₇
                | .error e => E' e s₇) s₆) E s₅) E s₄
            else codeAny (model prog w) A (.compLoop (.ListComp elt gens scope pos) j it acc env) R s₄) E s₃) E s₂) E s₁) E s) :
    codeAny (model prog w) A (.compLoop (.ListComp elt gens scope pos) j it acc env) R s := by
  refine codeAny_of_tree ?_
  show wpAny _ A ((compTurn (.ListComp elt gens scope pos) j it acc env).onRaise (fun x => do noteFrame x env; theTreesLotGoes x)) _ _ s
  refine wpAny_noted ?_
  rw [turn_in hj hn]
  refine wpAny_bind (wpAny_standAt (wpAny_bind (wpAny_mono (h _) (fun r s₁ h₁ => ?_) fun _ _ h' => h')))
  cases r with
  | none => exact wpAny_pure h₁
  | some v =>
    refine wpAny_bind (wpAny_mono h₁ (fun _ s₂ h₂ => wpAny_bind (wpAny_mono h₂ (fun _ s₃ h₃ => wpAny_bind (wpAny_mono h₃ (fun ok s₄ h₄ => ?_) fun _ _ h' => h')) fun _ _ h' => h')) fun _ _ h' => h')
    cases ok with
    | false => exact wpAny_pure ⟨rfl, h₄⟩
    | true =>
      refine wpAny_bind (wpAny_mono h₄ (fun x s₅ h₅ => wpAny_bind (wpAny_standAt (wpAny_bind (wpAny_of_eq (hs x) (wpAny_bind (wpAny_holding (wpAny_mono h₅ (fun it' s₆ h₆ => ?_) fun _ _ h' => h'))))))) fun _ _ h' => h')
      refine wpAny_bind (wpAny_runOwn (codeAny_mono (h₆ fun e s' => cameBackBy (model prog w) A env (notedBy (model prog w) A env fun e s' => R (.error e) s') e s') fun r s₇ h₇ => ?_))
      cases r with
      | ok f => exact wpAny_pure ⟨rfl, h₇⟩
      | error e => exact h₇
end
end Mine
end
section
open PySem PySem.W PyProof.Rows
namespace Mine
section
variable {prog : Program} {w : World} {base : Heap} {k : Nat} {env : Env} {B : Str → Bool} {V V' O : List (Str × D)} {elt target iter : Expr} {ifs : List Expr} {gens : List Comprehension} {scope : Scope} {pos : Pos} {j : Nat}
theorem Body.stay {w : World} {X X' : Addr → Prop} {h h' : Heap} {a : Addr} {d : D} (b : Body w X h a d) (f : Fixed X X' h h') (e : ∀ o, (∀ u, o.data ≠ .cell u) → h.get? a = some o → h'.get? a = some o) : Body w X' h' a d :=
  b.mono f fun o q => e o (fun u du => body_cell b ⟨o, q, du⟩ rfl) q
theorem CL.nil (hj : gens[j]? = some ⟨target, iter, ifs, 0⟩) (hn : gens[j + 1]? = none ∨ ∃ t' i' ifs', gens[j + 1]? = some ⟨t', i', ifs', 0⟩ ∧ ∀ x, foldedSetIterable i' env x = pure x) : CL prog w base k env B (.ListComp elt gens scope pos) j V [] [] := by
  refine Seal.mk ?_
  intro A X Y s R I Dd all i acc g F xI nI bI t hi hd yD nl bd hs q
  have ie : i = all.length := Nat.le_antisymm hi (List.drop_eq_nil_iff.mp hd)
  subst ie
  have nd : Dd ≠ I := fun e => nI (e ▸ yD)
  have fin : ∀ E, wpAny (model prog w) A (pyNext (.ref I)) (fun r s₁ => match r with | none => R (.ok .next) s₁ | some v => False) E s := fun E => by
    refine t.done g.1 fun h' tk kp => q h' tk ?_ ?_ fun b o _ n e => kp b o n e
    · exact F.touch nI xI bI kp (fun b z => z.1) (fun b y => ⟨(F.ow.sub b y).1, fun e => nI (e ▸ y)⟩) fun z => (z.2 rfl).elim
    · rw [List.append_nil]
      exact bd.mono ⟨fun b o n e => kp b o (fun z => n (z ▸ xI)) e, fun _ _ _ z => z.1⟩ fun o e => kp _ o nd e
  rcases hn with hn | ⟨t', i', ifs', hn, hs'⟩
  · refine comp_turn_last hj hn fun E => wpAny_mono (fin E) (fun r s₁ h => ?_) fun _ _ h => h
    cases r with
    | none => exact h
    | some v => exact h.elim
  · refine comp_turn_in hj hn hs' fun E => wpAny_mono (fin E) (fun r s₁ h => ?_) fun _ _ h => h
    cases r with
    | none => exact h
    | some v => exact h.elim
theorem CL.cons {d x : D} {b : Bool} {ds out : List D} (hj : gens[j]? = some ⟨target, iter, ifs, 0⟩) (hn : gens[j + 1]? = none) (ht : Tgt prog w base k env B V [] target d V') (hc : Tst prog w base k env V' ifs b)
    (he : b = true → Ev prog w base k env V' elt x) (hv : ∀ y u, V.lookup y = some u → V'.lookup y = some u) (ih : CL prog w base k env B (.ListComp elt gens scope pos) j V ds out) :
    CL prog w base k env B (.ListComp elt gens scope pos) j V (d :: ds) ((if b then [x] else []) ++ out) := by
  refine Seal.mk ?_
  intro A X Y s R I Dd all i acc g F xI nI bI t hi hd yD nl bd hs q
  have nd : Dd ≠ I := fun e => nI (e ▸ yD)
  have hlt : i < all.length := by
    rcases Nat.lt_or_ge i all.length with h | h
    · exact h
    · rw [List.drop_eq_nil_of_le h] at hd; cases hd
  rw [List.drop_eq_getElem_cons hlt] at hd
  injection hd with hd1 hd2
  refine comp_turn_last hj hn fun E => t.item g.1 hlt xI fun d' v h1 tk l r t1 kp ⟨oI, eI, pI⟩ => ?_
  rw [List.getElem?_eq_getElem hlt, hd1] at l
  cases l
  have F1 : Frm w base env B V [] X Y { s with heap := h1, toks := tk } := F.touch nI xI bI kp (fun _ z => z) (fun b y => (F.ow.sub b y).1) fun _ => ⟨oI, eI⟩
  have bd1 : Body w X h1 Dd (.list acc) := bd.mono ⟨fun b o n e => kp b o (fun z => n (z ▸ xI)) e, fun _ _ _ z => z⟩ fun o e => kp _ o nd e
  refine go_plain eI pI (ht.out A X Y _ v _ E g F1 r fun s2 F2 st2 kl2 => hc.out A X s2 _ E g F2.st fun s3 k3 => ?_)
  have F3 := F2.ks k3
  have fx12 : Fixed X X h1 s2.heap := st2.fixed (fun b y => (F1.ow.sub b y).1) fun _ z => .inl z
  have t3 : ItOK prog w X I all (i + 1) s3.heap := (t1.mono g.1 fx12 fun o e => st2.mod I o nI e).mono g.1 (.kp k3.kp) fun o e => k3.kp I o e
  have bd3 : Body w X s3.heap Dd (.list acc) := (bd1.stay fx12 fun o c e => kl2 Dd o e nl c).mono (.kp k3.kp) fun o e => k3.kp _ o e
  obtain ⟨h2, tk2, rfl⟩ := st2.same
  cases b with
  | false =>
    simp only [Bool.false_eq_true, if_false, List.nil_append] at hs q ⊢
    have m13 : ∀ c o, ¬ Y c → c ≠ I → s.heap.get? c = some o → s3.heap.get? c = some o := fun c o n n' e => k3.kp c o (st2.mod c o n (kp c o n' e))
    obtain ⟨h3, tk3, rfl, -⟩ := k3
    exact ih.out A X Y _ R I Dd all (i + 1) acc g (F3.weak hv fun _ _ l => l) xI nI bI t3 hlt hd2 yD nl bd3 hs fun h' tk' F' b' m' => q h' tk' F' b' fun c o n n' e => m' c o n n' (m13 c o n n' e)
  | true =>
    simp only [if_true, List.singleton_append, List.length_cons] at hs q ⊢
    refine (he rfl).out A X s3 _ E g F3.st fun xv s4 rx k4 => ?_
    have m14 : ∀ c o, ¬ Y c → c ≠ I → s.heap.get? c = some o → s4.heap.get? c = some o := fun c o n n' e => k4.kp c o (k3.kp c o (st2.mod c o n (kp c o n' e)))
    refine append_own (F3.ks k4) yD nl (bd3.mono (.kp k4.kp) fun o e => k4.kp _ o e) rx (by omega) fun h5 F5 bd5 sb5 => ?_
    have t5 : ItOK prog w X I all (i + 1) h5 := (t3.mono g.1 (.kp k4.kp) fun o e => k4.kp I o e).mono g.1 ⟨fun c o n e => (sb5.2 c fun z => n (z ▸ (F.ow.sub _ yD).1)).trans e, fun _ _ _ z => z⟩ fun o e => (sb5.2 I (Ne.symm nd)).trans e
    obtain ⟨h3, tk3, rfl, -⟩ := k3
    obtain ⟨h4, tk4, rfl, -⟩ := k4
    exact ih.out A X Y _ R I Dd all (i + 1) (acc ++ [x]) g (F5.weak hv fun _ _ l => l) xI nI bI t5 hlt hd2 yD nl bd5 (by rw [List.length_append, List.length_singleton]; omega) fun h' tk' F' b' m' =>
      q h' tk' F' (by rwa [List.append_assoc] at b') fun c o n n' e => m' c o n n' ((sb5.2 c fun z => n (z ▸ yD)).trans (m14 c o n n' e))
theorem CL.cons_in {t' i' : Expr} {ifs' : List Expr} {d : D} {b : Bool} {ds ds' o out : List D} (hj : gens[j]? = some ⟨target, iter, ifs, 0⟩) (hn : gens[j + 1]? = some ⟨t', i', ifs', 0⟩) (hs' : ∀ x, foldedSetIterable i' env x = pure x)
    (ht : Tgt prog w base k env B V [] target d V') (hc : Tst prog w base k env V' ifs b)
    (he : b = true → EvIt prog w base k env V' i' ds') (hl : b = true → CL prog w base k env B (.ListComp elt gens scope pos) (j + 1) V' ds' o) (hv : ∀ y u, V.lookup y = some u → V'.lookup y = some u) (ih : CL prog w base k env B (.ListComp elt gens scope pos) j V ds out) :
    CL prog w base k env B (.ListComp elt gens scope pos) j V (d :: ds) ((if b then o else []) ++ out) := by
  refine Seal.mk ?_
  intro A X Y s R I Dd all i acc g F xI nI bI t hi hd yD nl bd hs q
  have nd : Dd ≠ I := fun e => nI (e ▸ yD)
  have hlt : i < all.length := by
    rcases Nat.lt_or_ge i all.length with h | h
    · exact h
    · rw [List.drop_eq_nil_of_le h] at hd; cases hd
  rw [List.drop_eq_getElem_cons hlt] at hd
  injection hd with hd1 hd2
  refine comp_turn_in hj hn hs' fun E => t.item g.1 hlt xI fun d' v h1 tk l r t1 kp ⟨oI, eI, pI⟩ => ?_
  rw [List.getElem?_eq_getElem hlt, hd1] at l
  cases l
  have F1 : Frm w base env B V [] X Y { s with heap := h1, toks := tk } := F.touch nI xI bI kp (fun _ z => z) (fun b y => (F.ow.sub b y).1) fun _ => ⟨oI, eI⟩
  have bd1 : Body w X h1 Dd (.list acc) := bd.mono ⟨fun b o n e => kp b o (fun z => n (z ▸ xI)) e, fun _ _ _ z => z⟩ fun o e => kp _ o nd e
  refine go_plain eI pI (ht.out A X Y _ v _ E g F1 r fun s2 F2 st2 kl2 => hc.out A X s2 _ E g F2.st fun s3 k3 => ?_)
  have F3 := F2.ks k3
  have fx12 : Fixed X X h1 s2.heap := st2.fixed (fun b y => (F1.ow.sub b y).1) fun _ z => .inl z
  have t3 : ItOK prog w X I all (i + 1) s3.heap := (t1.mono g.1 fx12 fun o e => st2.mod I o nI e).mono g.1 (.kp k3.kp) fun o e => k3.kp I o e
  have bd3 : Body w X s3.heap Dd (.list acc) := (bd1.stay fx12 fun o c e => kl2 Dd o e nl c).mono (.kp k3.kp) fun o e => k3.kp _ o e
  obtain ⟨h2, tk2, rfl⟩ := st2.same
  have m13 : ∀ c o, ¬ Y c → c ≠ I → s.heap.get? c = some o → s3.heap.get? c = some o := fun c o n n' e => k3.kp c o (st2.mod c o n (kp c o n' e))
  obtain ⟨h3, tk3, rfl, -⟩ := k3
  cases b with
  | false =>
    simp only [Bool.false_eq_true, if_false, List.nil_append] at hs q ⊢
    exact ih.out A X Y _ R I Dd all (i + 1) acc g (F3.weak hv fun _ _ l => l) xI nI bI t3 hlt hd2 yD nl bd3 hs fun h' tk' F' b' m' => q h' tk' F' b' fun c o n n' e => m' c o n n' (m13 c o n n' e)
  | true =>
    simp only [if_true, List.length_append] at hs q ⊢
    refine (he rfl).out A X _ _ E g F3.st fun I2 s4 t4 n4 a4 k4 E' => ?_
    have nY2 : ¬ Y I2 := fun y => by obtain ⟨z, e⟩ := F3.st.low _ (F3.ow.sub _ y).1; rw [n4] at e; cases e
    have nX2 : ¬ X I2 := fun y => by obtain ⟨z, e⟩ := F3.st.low _ y; rw [n4] at e; cases e
    have bI2 : base.get? I2 = none := by
      cases z : base.get? I2 with
      | none => rfl
      | some z' => have := F3.st.kept _ _ z; rw [n4] at this; cases this
    have fx4 : Fixed X (fun b => X b ∨ b = I2) h3 s4.heap := ⟨fun b o _ e => k4.kp b o e, fun b o e z => z.elim id fun z => by rw [z, n4] at e; cases e⟩
    have eqX : (fun b => (X b ∨ b = I2) ∧ b ≠ I2) = X := funext fun b => propext ⟨fun z => z.1.elim id fun e => absurd e z.2, fun z => ⟨.inl z, fun e => nX2 (e ▸ z)⟩⟩
    have core : codeAny (model prog w) A (.compLoop (.ListComp elt gens scope pos) (j + 1) (.ref I2) (.ref Dd) env) (fun r s₇ => match r with
                | .ok _ => codeAny (model prog w) A (.compLoop (.ListComp elt gens scope pos) j (.ref I) (.ref Dd) env) R s₇
                | .error e => E' e s₇) s4 := by
      refine (hl rfl).out A _ Y s4 _ I2 Dd ds' 0 acc g (F3.add n4 k4 a4) (.inr rfl) nY2 bI2 t4 (Nat.zero_le _) rfl yD nl (bd3.mono fx4 fun o e => k4.kp _ o e) (by omega) fun h5 tk5 F5 bd5 m5 => ?_
      rw [eqX] at F5 bd5
      have m35 : ∀ c o, ¬ Y c → h3.get? c = some o → h5.get? c = some o := fun c o n e => m5 c o n (fun z => by subst z; rw [n4] at e; cases e) (k4.kp c o e)
      have t5 : ItOK prog w X I all (i + 1) h5 := t3.mono g.1 ⟨fun c o n e => m35 c o (fun y => n (F.ow.sub c y).1) e, fun _ _ _ z => z⟩ fun o e => m35 I o nI e
      obtain ⟨h4, tk4, rfl, -⟩ := k4
      exact ih.out A X Y _ R I Dd all (i + 1) (acc ++ o) g (F5.weak hv fun _ _ l => l) xI nI bI t5 hlt hd2 yD nl bd5 (by rw [List.length_append]; omega) fun h' tk' F' b' m' =>
        q h' tk' F' (by rwa [List.append_assoc] at b') fun c o n n' e => m' c o n n' (m35 c o n (m13 c o n n' e))
    exact comp_start hn rfl core fun E => t4.self g.1 core
end
end Mine
end
section
open PySem PySem.W PyProof.Rows
namespace Mine
/-! the cells of a comprehension's frame -/
theorem cellsFrom_split : ∀ (names : List (Str × NameKind)) (n : Nat) (acc : List (Str × Addr)), cellsFrom n names acc = cellsFrom n names [] ++ acc
  | [], _, _ => rfl
  | (y, k) :: r, n, acc => by
    unfold cellsFrom
    split
    · rw [cellsFrom_split r (n + 1) ((y, n) :: acc), cellsFrom_split r (n + 1) [(y, n)], List.append_assoc]; rfl
    · exact cellsFrom_split r n acc
theorem cellsFrom_mem : ∀ (names : List (Str × NameKind)) (n : Nat) {y : Str} {c : Addr}, (y, c) ∈ cellsFrom n names [] → (y, NameKind.cell) ∈ names
  | [], _, _, _, h => by cases h
  | (z, k) :: r, n, y, c, h => by
    unfold cellsFrom at h
    split at h
    · rename_i hk
      rw [cellsFrom_split, List.mem_append] at h
      rcases h with h | h
      · exact List.mem_cons_of_mem _ (cellsFrom_mem r _ h)
      · simp only [List.mem_singleton, Prod.mk.injEq] at h
        rw [h.1, ← beq_iff_eq.mp hk]; exact List.mem_cons_self
    · exact List.mem_cons_of_mem _ (cellsFrom_mem r _ h)
theorem cellsFrom_has : ∀ (names : List (Str × NameKind)) (n : Nat) {y : Str}, (y, NameKind.cell) ∈ names → ∃ c, (y, c) ∈ cellsFrom n names []
  | (z, k) :: r, n, y, h => by
    unfold cellsFrom
    rcases List.mem_cons.mp h with h | h
    · injection h with h1 h2
      subst h1 h2
      refine ⟨n, ?_⟩
      rw [if_pos (by rfl), cellsFrom_split]
      exact List.mem_append_right _ List.mem_cons_self
    · split
      · obtain ⟨c, q⟩ := cellsFrom_has r (n + 1) h
        exact ⟨c, by rw [cellsFrom_split]; exact List.mem_append_left _ q⟩
      · exact cellsFrom_has r n h
theorem lookup_of_mem {α : Type} : ∀ {l : List (Str × α)} {y : Str} {c : α}, (y, c) ∈ l → ∃ c', l.lookup y = some c'
  | (z, d) :: r, y, c, h => by
    cases hb : y == z with
    | true => exact ⟨d, by simp [List.lookup_cons, hb]⟩
    | false =>
      rcases List.mem_cons.mp h with h | h
      · injection h with h1 _
        rw [h1] at hb; simp at hb
      · obtain ⟨c', q⟩ := lookup_of_mem h
        exact ⟨c', by rw [List.lookup_cons, hb]; exact q⟩
theorem lookup_nodup {α : Type} : ∀ {l : List (Str × α)} {y : Str} {c : α}, (l.map (·.1)).Nodup → (y, c) ∈ l → l.lookup y = some c
  | (z, d) :: r, y, c, hn, h => by
    rw [List.map_cons, List.nodup_cons] at hn
    rcases List.mem_cons.mp h with h | h
    · injection h with h1 h2; subst h1 h2; simp [List.lookup_cons]
    · have : (y == z) = false := by
        apply Bool.eq_false_iff.mpr
        intro e
        exact hn.1 (by rw [← beq_iff_eq.mp e]; exact List.mem_map.mpr ⟨_, h, rfl⟩)
      rw [List.lookup_cons, this]
      exact lookup_nodup hn.2 h
noncomputable def clOf (env : Env) : List (Str × NameKind) → List (Str × Addr) → List (Str × Addr)
  | [], acc => acc
  | (n, k) :: r, acc => if k == .free then clOf env r ((n, (env.cells.lookup n).getD 0) :: acc) else clOf env r acc
theorem closure_go (env : Env) (f : Str × NameKind → List (Str × Addr) → Sem (ForInStep (List (Str × Addr)))) (hf : ∀ name kind cs, f (name, kind) cs = if kind == .free then (do let a ← cellOf env name; pure (.yield ((name, a) :: cs))) else pure (.yield cs)) :
    ∀ (names : List (Str × NameKind)) (acc : List (Str × Addr)), (∀ x ∈ names, x.2 = .free → ∃ c, env.cells.lookup x.1 = some c) → forIn names acc f = pure (clOf env names acc)
  | [], acc, _ => by rw [List.forIn_nil]; rfl
  | (n, k) :: r, acc, h => by
    have hr : ∀ x ∈ r, x.2 = .free → ∃ c, env.cells.lookup x.1 = some c := fun x hx => h x (List.mem_cons_of_mem _ hx)
    rw [List.forIn_cons, hf]
    unfold clOf
    cases hk : k == NameKind.free with
    | false => simp only [Bool.false_eq_true, if_false]; exact closure_go env f hf r acc hr
    | true =>
      obtain ⟨c, e⟩ := h (n, k) List.mem_cons_self (beq_iff_eq.mp hk)
      have e' : cellOf env n = pure c := by unfold cellOf; rw [e]
      simp only [if_true, e', e, Option.getD_some]
      exact closure_go env f hf r _ hr
theorem closure_is {scope : Scope} {env : Env} (h : ∀ x ∈ scope.names, x.2 = .free → ∃ c, env.cells.lookup x.1 = some c) : closureFor scope env = pure (clOf env scope.names []) := by
  simp only [closureFor]
  rw [closure_go env _ (fun name kind cs => by cases hkc : kind == NameKind.free <;> simp [hkc]) scope.names [] h]
  rfl
theorem clOf_val {env : Env} : ∀ {names : List (Str × NameKind)} {acc : List (Str × Addr)} {y : Str} {c : Addr}, (∀ x ∈ names, x.2 = .free → ∃ c, env.cells.lookup x.1 = some c) → (∀ y c, acc.lookup y = some c → env.cells.lookup y = some c) →
    (clOf env names acc).lookup y = some c → env.cells.lookup y = some c
  | [], _, _, _, _, ha, h => ha _ _ h
  | (n, k) :: r, acc, y, c, hn, ha, h => by
    have hr : ∀ x ∈ r, x.2 = .free → ∃ c, env.cells.lookup x.1 = some c := fun x hx => hn x (List.mem_cons_of_mem _ hx)
    unfold clOf at h
    split at h
    · rename_i hk
      refine clOf_val hr (fun z d l => ?_) h
      obtain ⟨c', e⟩ := hn (n, k) List.mem_cons_self (beq_iff_eq.mp hk)
      simp only at e
      cases hz : z == n with
      | true => rw [List.lookup_cons, hz] at l; simp only [e, Option.getD_some] at l; rw [beq_iff_eq.mp hz, e]; exact l
      | false => rw [List.lookup_cons, hz] at l; exact ha _ _ l
    · exact clOf_val hr ha h
theorem clOf_old {env : Env} : ∀ {names : List (Str × NameKind)} {acc : List (Str × Addr)} {y : Str} {c : Addr}, (∀ x ∈ names, x.2 = .free → ∃ c, env.cells.lookup x.1 = some c) → env.cells.lookup y = some c → acc.lookup y = some c → (clOf env names acc).lookup y = some c
  | [], _, _, _, _, _, h => h
  | (n, k) :: r, acc, y, c, hn, he, h => by
    have hr : ∀ x ∈ r, x.2 = .free → ∃ c, env.cells.lookup x.1 = some c := fun x hx => hn x (List.mem_cons_of_mem _ hx)
    unfold clOf
    split
    · refine clOf_old hr he ?_
      cases hz : y == n with
      | true => rw [List.lookup_cons, hz]; simp only; rw [← beq_iff_eq.mp hz, he]; rfl
      | false => rw [List.lookup_cons, hz]; exact h
    · exact clOf_old hr he h
theorem clOf_has {env : Env} : ∀ {names : List (Str × NameKind)} {acc : List (Str × Addr)} {y : Str}, (∀ x ∈ names, x.2 = .free → ∃ c, env.cells.lookup x.1 = some c) → (y, NameKind.free) ∈ names → (clOf env names acc).lookup y = env.cells.lookup y
  | (n, k) :: r, acc, y, hn, h => by
    have hr : ∀ x ∈ r, x.2 = .free → ∃ c, env.cells.lookup x.1 = some c := fun x hx => hn x (List.mem_cons_of_mem _ hx)
    rcases List.mem_cons.mp h with h | h
    · injection h with h1 h2
      subst h1 h2
      obtain ⟨c, e⟩ := hn _ List.mem_cons_self rfl
      simp only at e
      unfold clOf
      rw [if_pos (by rfl), e, clOf_old hr e (by simp [List.lookup_cons])]
    · unfold clOf
      split
      · exact clOf_has hr h
      · exact clOf_has hr h
section
variable {M : Model} {A : Around} {E : Value → Shared → Prop} {s : Shared}
noncomputable def compEnvD (scope : Scope) (env : Env) (g : Addr) (q : Str) (cl : List (Str × Addr)) (C : Addr) : Env :=
  { scope := scope, locals := C, globals := g, cells := cellsFrom (C + 1) scope.names cl, qual := q, func := none, code := env.code, frame := env.frame, builtins := env.builtins }
theorem wp_compEnv {scope : Scope} {env : Env} {g : Addr} {q : Str} {cl : List (Str × Addr)} {Q : Env → Shared → Prop}
    (h : Q (compEnvD scope env g q cl s.heap.objs.size) { s with heap := pushCells (s.heap.push { cls := .type "dict", data := .dict #[] }) scope.names }) : wpAny M A (newFunctionEnv scope g cl [] q none .none (some env)) Q E s := by
  simp only [newFunctionEnv, Option.isSome_some, if_true]
  refine wpAny_bind (wpAny_alloc ?_)
  refine wpAny_bind (wpAny_layCells _ (fun name kind cells => by cases hkc : kind == NameKind.cell <;> simp [hkc]) _ _ _ _ ?_)
  rw [show ({ s with heap := s.heap.push { cls := .type "dict", data := .dict #[] } } : Shared).heap.objs.size = s.heap.objs.size + 1 from Heap.size_push ..]
  rw [List.forIn_nil]
  exact wpAny_bind (wpAny_pure (wpAny_pure h))
end
end Mine
end
section
open PySem PySem.W PyProof.Rows
namespace Mine
theorem clOf_mem {env : Env} : ∀ {names : List (Str × NameKind)} {acc : List (Str × Addr)} {y : Str} {c : Addr}, (clOf env names acc).lookup y = some c → (y, NameKind.free) ∈ names ∨ acc.lookup y = some c
  | [], _, _, _, h => .inr h
  | (n, k) :: r, acc, y, c, h => by
    unfold clOf at h
    split at h
    · rename_i hk
      rcases clOf_mem h with q | q
      · exact .inl (List.mem_cons_of_mem _ q)
      · cases hz : y == n with
        | true => exact .inl (by rw [beq_iff_eq.mp hz, ← beq_iff_eq.mp hk]; exact List.mem_cons_self)
        | false => rw [List.lookup_cons, hz] at q; exact .inr q
    · exact (clOf_mem h).imp (List.mem_cons_of_mem _) id
noncomputable def bindable (names : List (Str × NameKind)) (x : Str) : Bool := names.lookup x == some .local || names.lookup x == some .cell
noncomputable def compOk (scope : Scope) (env : Env) : Bool := decide (scope.names.map (·.1)).Nodup && scope.names.all (fun x => x.2 != .free || env.kindOf x.1 == some .cell) && scope.kind == .function
noncomputable def Sees (V : List (Str × D)) (scope : Scope) : List (Str × D) → Prop
  | [] => True
  | (x, d) :: r => V.lookup x = some d ∧ scope.names.lookup x = some .free ∧ Sees V scope r
theorem Sees.get {V : List (Str × D)} {scope : Scope} : ∀ {Vc : List (Str × D)}, Sees V scope Vc → ∀ {x : Str} {d : D}, Vc.lookup x = some d → V.lookup x = some d ∧ scope.names.lookup x = some .free
  | (y, e) :: r, ⟨a, b, c⟩, x, d, h => by
    cases hb : x == y with
    | true => rw [List.lookup_cons, hb] at h; cases h; rw [beq_iff_eq.mp hb]; exact ⟨a, b⟩
    | false => rw [List.lookup_cons, hb] at h; exact Sees.get c h
theorem lookup_relabel_cell {env : Env} : ∀ {names : List (Str × NameKind)} {x : Str}, names.lookup x = some .cell →
    (names.map fun (n, k) => if (k == NameKind.free && env.scope.kind == .function && env.kindOf n == some .cell) then (n, NameKind.cell) else (n, k)).lookup x = some .cell
  | [], _, h => by simp at h
  | (n, k) :: r, x, h => by
    show List.lookup x ((if (k == NameKind.free && env.scope.kind == .function && env.kindOf n == some .cell) = true then (n, NameKind.cell) else (n, k)) :: _) = _
    cases hx : x == n with
    | true =>
      simp only [List.lookup_cons, hx] at h
      cases h
      simp [List.lookup_cons, hx]
    | false =>
      simp only [List.lookup_cons, hx] at h
      by_cases hc : (k == NameKind.free && env.scope.kind == .function && env.kindOf n == some .cell) = true
      · rw [if_pos hc]; simp only [List.lookup_cons, hx]; exact lookup_relabel_cell h
      · rw [if_neg hc]; simp only [List.lookup_cons, hx]; exact lookup_relabel_cell h
theorem lookup_relabel_free {env : Env} (he : env.scope.kind = .function) : ∀ {names : List (Str × NameKind)} {x : Str}, env.kindOf x = some .cell → names.lookup x = some .free →
    (names.map fun (n, k) => if (k == NameKind.free && env.scope.kind == .function && env.kindOf n == some .cell) then (n, NameKind.cell) else (n, k)).lookup x = some .cell
  | [], _, _, h => by simp at h
  | (n, k) :: r, x, hk, h => by
    show List.lookup x ((if (k == NameKind.free && env.scope.kind == .function && env.kindOf n == some .cell) = true then (n, NameKind.cell) else (n, k)) :: _) = _
    cases hx : x == n with
    | true =>
      simp only [List.lookup_cons, hx] at h
      cases h
      have : env.kindOf n = some .cell := by rw [← beq_iff_eq.mp hx]; exact hk
      rw [if_pos (by simp [he, this])]
      simp [List.lookup_cons, hx]
    | false =>
      simp only [List.lookup_cons, hx] at h
      by_cases hc : (k == NameKind.free && env.scope.kind == .function && env.kindOf n == some .cell) = true
      · rw [if_pos hc]; simp only [List.lookup_cons, hx]; exact lookup_relabel_free he hk h
      · rw [if_neg hc]; simp only [List.lookup_cons, hx]; exact lookup_relabel_free he hk h
theorem relabel_inv {env : Env} : ∀ {names : List (Str × NameKind)} {x : Str},
    (names.map fun (n, k) => if (k == NameKind.free && env.scope.kind == .function && env.kindOf n == some .cell) then (n, NameKind.cell) else (n, k)).lookup x = some .cell →
    (x, NameKind.cell) ∈ names ∨ ((x, NameKind.free) ∈ names ∧ env.kindOf x = some .cell)
  | [], _, h => by simp at h
  | (n, k) :: r, x, h => by
    change List.lookup x ((if (k == NameKind.free && env.scope.kind == .function && env.kindOf n == some .cell) = true then (n, NameKind.cell) else (n, k)) :: _) = _ at h
    cases hx : x == n with
    | true =>
      have ex := beq_iff_eq.mp hx
      subst ex
      by_cases hc : (k == NameKind.free && env.scope.kind == .function && env.kindOf x == some .cell) = true
      · simp only [Bool.and_eq_true, beq_iff_eq] at hc
        obtain ⟨⟨c1, c2⟩, c3⟩ := hc
        subst c1
        exact .inr ⟨List.mem_cons_self, c3⟩
      · rw [if_neg hc] at h
        simp [List.lookup_cons] at h
        subst h
        exact .inl List.mem_cons_self
    | false =>
      have hr : (r.map fun (n, k) => if (k == NameKind.free && env.scope.kind == .function && env.kindOf n == some .cell) then (n, NameKind.cell) else (n, k)).lookup x = some .cell := by
        by_cases hc : (k == NameKind.free && env.scope.kind == .function && env.kindOf n == some .cell) = true
        · rw [if_pos hc] at h; simpa only [List.lookup_cons, hx] using h
        · rw [if_neg hc] at h; simpa only [List.lookup_cons, hx] using h
      exact (relabel_inv hr).imp (List.mem_cons_of_mem _) fun q => ⟨List.mem_cons_of_mem _ q.1, q.2⟩
noncomputable def compEnvE (scope : Scope) (env : Env) (cl : List (Str × Addr)) (C : Addr) : Env := { compEnvD scope env env.globals env.qual cl C with scope := relabel scope env }
theorem size_keep {h h' : Heap} (k : Kp h h') {n : Nat} (hn : h.objs.size ≤ n) : h.get? n = none := by
  cases e : h.get? n with
  | none => rfl
  | some o => exact absurd (Heap.lt_size e) (Nat.not_lt.mpr hn)
theorem pushCells_size : ∀ (names : List (Str × NameKind)) (h : Heap), h.objs.size ≤ (pushCells h names).objs.size
  | [], _ => Nat.le_refl _
  | (_, k) :: r, h => by
    unfold pushCells
    split
    · exact Nat.le_trans (by rw [Heap.size_push]; exact Nat.le_succ _) (pushCells_size r _)
    · exact pushCells_size r h
section
variable {prog : Program} {w : World} {base : Heap} {k : Nat} {env : Env} {V Vc : List (Str × D)} {X : Addr → Prop} {s s2 : Shared}
/-- the frame of a comprehension, fresh -/
theorem comp_frame {scope : Scope} {I : Addr} {h4 : Heap} {tk : Nat} (S : St w base env V X s) (k2 : Ks s s2) (nI : s.heap.get? I = none) (aI : ∃ o, s2.heap.get? I = some o) (ok : compOk scope env = true) (see : Sees V scope Vc)
    (e4 : h4 = pushCells ((s2.heap.push (listObj [] 0)).push { cls := .type "dict", data := .dict #[] }) scope.names) :
    ∃ Y : Addr → Prop, (∀ b, Y b ↔ s2.heap.objs.size ≤ b ∧ ∃ o, h4.get? b = some o) ∧
      Frm w s.heap (compEnvE scope env (clOf env scope.names []) (s2.heap.objs.size + 1)) (bindable scope.names) Vc [] (fun b => (X b ∨ b = I) ∨ Y b) Y { s2 with heap := h4, toks := tk } ∧
      Y s2.heap.objs.size ∧ Kp s2.heap h4 ∧ Body w (fun b => (X b ∨ b = I) ∨ Y b) h4 s2.heap.objs.size (.list []) := by
  simp only [compOk, Bool.and_eq_true, decide_eq_true_eq, beq_iff_eq, List.all_eq_true, Bool.or_eq_true, bne_iff_ne, ne_eq] at ok
  obtain ⟨⟨hnd, hfr⟩, hkd⟩ := ok
  have hfree : ∀ x ∈ scope.names, x.2 = .free → ∃ c, env.cells.lookup x.1 = some c := fun x hx hf => by
    rcases hfr x hx with q | q
    · exact absurd hf q
    · obtain ⟨c, l, _⟩ := S.cel x.1 q; exact ⟨c, l⟩
  generalize e3 : (s2.heap.push (listObj [] 0)).push { cls := .type "dict", data := .dict #[] } = h3 at e4
  have sz1 : (s2.heap.push (listObj [] 0)).objs.size = s2.heap.objs.size + 1 := by rw [Heap.size_push]
  have sz3 : h3.objs.size = s2.heap.objs.size + 1 + 1 := by rw [← e3, Heap.size_push, sz1]
  have k3 : Kp s2.heap h3 := fun b o e => by rw [← e3]; exact Heap.get?_push_of_some _ (Heap.get?_push_of_some _ e)
  have k34 : Kp h3 h4 := fun b o e => by rw [e4]; exact pushCells_keeps _ _ _ _ e
  have k4 : Kp s2.heap h4 := k3.trans k34
  have eD : h4.get? s2.heap.objs.size = some (listObj [] 0) := k34 _ _ (by rw [← e3]; exact Heap.get?_push_of_some _ (Heap.get?_push_size _ rfl))
  have nsC : h3.Ns (s2.heap.objs.size + 1) fun _ => none := by
    have := Heap.Ns.new (s2.heap.push (listObj [] 0)) (.type "dict")
    rw [sz1, e3] at this
    exact this
  have nsC4 : h4.Ns (s2.heap.objs.size + 1) fun _ => none := nsC.keeps k34
  have cok := cellsFrom_ok scope.names h3 h3.objs.size [] ⟨fun _ _ hm => (nomatch hm), List.Pairwise.nil⟩ (Nat.le_refl _)
  rw [sz3] at cok
  rw [← e4] at cok
  let Y : Addr → Prop := fun b => s2.heap.objs.size ≤ b ∧ ∃ o, h4.get? b = some o
  have low2 : ∀ b o, s2.heap.get? b = some o → ¬ Y b := fun b o e y => absurd (Heap.lt_size e) (Nat.not_lt.mpr y.1)
  have yfresh : ∀ b, Y b → s.heap.get? b = none := fun b y => by
    cases e : s.heap.get? b with
    | none => rfl
    | some o => exact absurd y (low2 b o (k2.kp b o e))
  have oldc : ∀ y c, (clOf env scope.names []).lookup y = some c → env.cells.lookup y = some c := fun y c h => clOf_val hfree (fun _ _ l => by simp at l) h
  have lk : ∀ y, (cellsFrom (s2.heap.objs.size + 1 + 1) scope.names (clOf env scope.names [])).lookup y = ((cellsFrom (s2.heap.objs.size + 1 + 1) scope.names []).lookup y).or ((clOf env scope.names []).lookup y) := fun y => by
    rw [cellsFrom_split, List.lookup_append]
  have ownc : ∀ y, (y, NameKind.cell) ∈ scope.names → ∃ c, (cellsFrom (s2.heap.objs.size + 1 + 1) scope.names (clOf env scope.names [])).lookup y = some c ∧ (y, c) ∈ cellsFrom (s2.heap.objs.size + 1 + 1) scope.names [] := fun y hy => by
    obtain ⟨c, hc⟩ := cellsFrom_has scope.names (s2.heap.objs.size + 1 + 1) hy
    obtain ⟨c', hc'⟩ := lookup_of_mem hc
    exact ⟨c', by rw [lk, hc']; rfl, mem_of_lookup hc'⟩
  have freec : ∀ y, (y, NameKind.free) ∈ scope.names → (cellsFrom (s2.heap.objs.size + 1 + 1) scope.names (clOf env scope.names [])).lookup y = env.cells.lookup y := fun y hy => by
    have : (cellsFrom (s2.heap.objs.size + 1 + 1) scope.names []).lookup y = none := by
      cases e : (cellsFrom (s2.heap.objs.size + 1 + 1) scope.names []).lookup y with
      | none => rfl
      | some c =>
        have h1 := lookup_nodup hnd (cellsFrom_mem _ _ (mem_of_lookup e))
        have h2 := lookup_nodup hnd hy
        rw [h1] at h2; cases h2
    rw [lk, this, Option.none_or]
    exact clOf_has hfree hy
  have freek : ∀ y, (y, NameKind.free) ∈ scope.names → env.kindOf y = some .cell := fun y hy => (hfr _ hy).elim (fun q => absurd rfl q) id
  have alloc : ∀ y c, env.kindOf y = some .cell → env.cells.lookup y = some c → ∃ o, s.heap.get? c = some o := fun y c hk l => by
    obtain ⟨c', l', o, e⟩ := S.cel y hk
    rw [l] at l'; cases l'; exact ⟨o, e⟩
  refine ⟨Y, fun b => Iff.rfl, ⟨⟨k2.kp.trans k4, hkd, S.glob, S.blt, fun b q => ?_, fun x hx => ?_, fun b h => ⟨let ⟨o, e⟩ := (S.sta b h).1; ⟨o, S.kept b o e⟩, fun q => ?_⟩, fun x d l => ?_⟩, ⟨fun b y => ⟨.inr y, yfresh b y⟩, ?_, ⟨_, nsC4⟩, fun x c hx lx yc => ?_, fun x c hx lx => ?_, fun x hx => ?_⟩, ?_⟩, ⟨Nat.le_refl _, _, eD⟩, k4, ⟨[], 0, eD, .nil⟩⟩
  · rcases q with (q | q) | q
    · obtain ⟨o, e⟩ := S.low b q; exact ⟨o, k4 _ _ (k2.kp _ _ e)⟩
    · subst q; obtain ⟨o, e⟩ := aI; exact ⟨o, k4 _ _ e⟩
    · exact q.2
  · rcases relabel_inv hx with q | ⟨q, hk⟩
    · obtain ⟨c, l, m⟩ := ownc x q
      obtain ⟨o, e, _⟩ := (cok.empty x c m).1
      exact ⟨c, l, o, e⟩
    · obtain ⟨c, l, o, e⟩ := S.cel x hk
      exact ⟨c, by rw [← l]; exact freec x q, o, k4 _ _ (k2.kp _ _ e)⟩
  · obtain ⟨o, e⟩ := (S.sta b h).1
    have e' := S.kept b o e
    rcases q with (q | q) | q
    · exact (S.sta b h).2 q
    · rw [q, nI] at e'; cases e'
    · rw [yfresh b q] at e'; cases e'
  · obtain ⟨lv, lf⟩ := see.get l
    have hm := mem_of_lookup lf
    have hk := freek x hm
    obtain ⟨v, a, r⟩ := S.vars x d lv
    refine ⟨v, .inr ⟨lookup_relabel_free S.kind hk lf, ?_⟩, ?_⟩
    · rcases a with ⟨hl, _⟩ | ⟨_, c, lc, qc⟩
      · rw [hk] at hl; cases hl
      · exact ⟨c, by rw [← lc]; exact freec x hm, qc.keeps fun b o e => k4 b o (k2.kp b o e)⟩
    · exact r.mono ⟨fun b o _ e => k4 b o (k2.kp b o e), fun b o e q => by
        rcases q with (q | q) | q
        · exact q
        · rw [q, nI] at e; cases e
        · rw [yfresh b q] at e; cases e⟩
  · show Y (s2.heap.objs.size + 1)
    obtain ⟨o, _, _, e, _⟩ := nsC4
    exact ⟨Nat.le_succ _, o, e⟩
  · have own : ∀ y, (cellsFrom (s2.heap.objs.size + 1 + 1) scope.names (clOf env scope.names [])).lookup y = some c → (y, c) ∈ cellsFrom (s2.heap.objs.size + 1 + 1) scope.names [] := fun y ly => by
      rw [lk] at ly
      cases e : (cellsFrom (s2.heap.objs.size + 1 + 1) scope.names []).lookup y with
      | some c' => rw [e] at ly; cases ly; exact mem_of_lookup e
      | none =>
        rw [e, Option.none_or] at ly
        exfalso
        have l0 := oldc y c ly
        rcases clOf_mem ly with q | q
        · obtain ⟨o, e'⟩ := alloc y c (freek y q) l0
          exact low2 c o (k2.kp c o e') yc
        · simp at q
    exact ⟨⟨none, (cok.empty x c (own x lx)).1⟩, fun y ly => name_of_addr cok.apart (own y ly) (own x lx)⟩
  · rcases relabel_inv hx with q | ⟨q, hk⟩
    · obtain ⟨c', l, m⟩ := ownc x q
      have lx' : (cellsFrom (s2.heap.objs.size + 1 + 1) scope.names (clOf env scope.names [])).lookup x = some c := lx
      rw [lx'] at l; cases l
      obtain ⟨⟨o, e, _⟩, lo⟩ := cok.empty x c m
      exact .inl ⟨by omega, o, e⟩
    · have lx' : (cellsFrom (s2.heap.objs.size + 1 + 1) scope.names (clOf env scope.names [])).lookup x = some c := lx
      rw [freec x q] at lx'
      exact .inr (alloc x c hk lx')
  · simp only [bindable, Bool.or_eq_true, beq_iff_eq] at hx
    rcases hx with hx | hx
    · exact .inl (lookup_relabel_local hx)
    · refine .inr ⟨lookup_relabel_cell hx, ?_⟩
      obtain ⟨c, l, m⟩ := ownc x (mem_of_lookup hx)
      obtain ⟨⟨o, e, _⟩, lo⟩ := cok.empty x c m
      exact ⟨c, l, by omega, o, e⟩
  · exact ⟨fun _ => 0, ⟨fun _ _ l => by simp at l, fun _ _ n => (n rfl).elim⟩⟩
end
end Mine
end
section
open PySem PySem.W PyProof.Rows
namespace Mine
/-- inside a comprehension: base is what stood before it -/
noncomputable def CompGives (prog : Program) (w : World) (k : Nat) (env : Env) (V : List (Str × D)) (base : Heap) (elt : Expr) (gens : List Comprehension) (scope : Scope) (pos : Pos) (Vc : List (Str × D)) (ds out : List D) : Prop :=
  ∀ (s : Shared) (C : Addr), Kp base s.heap → CL prog w s.heap k (compEnvE scope env (clOf env scope.names []) C) (bindable scope.names) (.ListComp elt gens scope pos) 0 Vc ds out
section
variable {prog : Program} {w : World} {base : Heap} {k : Nat} {env : Env} {V Vc : List (Str × D)}
theorem comp_core {elt target iter : Expr} {ifs : List Expr} {gs : List Comprehension} {scope : Scope} {pos p2 : Pos} {ds out : List D} {A : Around} {X : Addr → Prop} {s : Shared} {use : Option (Value → Sem Unit)} {Q E : Value → Shared → Prop}
    (g : GA k A) (S : St w base env V X s) (ok : compOk scope env = true) (see : Sees V scope Vc) (hs : ∀ x, foldedSetIterable iter env x = pure x) (hi : EvIt prog w base k env V iter ds)
    (hc : CompGives prog w k env V base elt (⟨target, iter, ifs, 0⟩ :: gs) scope pos Vc ds out) (hsz : out.length ≤ sizeLine)
    (q : ∀ Dd C s', Ks s s' → s.heap.get? C = none → (∃ m, s'.heap.Ns C m) → Rep w (fun b => X b ∨ b = C) s'.heap (.ref Dd) (.list out) → compPost (model prog w) A E use Q (.ref Dd) C (.ok .next) s') :
    wpAny (model prog w) A (comprehension (.ListComp elt (⟨target, iter, ifs, 0⟩ :: gs) scope pos) scope env p2 (newList []) false (eval iter env) use) Q E s := by
  have ok' := ok
  simp only [compOk, Bool.and_eq_true, decide_eq_true_eq, beq_iff_eq, List.all_eq_true, Bool.or_eq_true, bne_iff_ne, ne_eq] at ok'
  obtain ⟨⟨hnd, hfr⟩, hkd⟩ := ok'
  have hfree : ∀ x ∈ scope.names, x.2 = .free → ∃ c, env.cells.lookup x.1 = some c := fun x hx hf => by
    rcases hfr x hx with q | q
    · exact absurd hf q
    · obtain ⟨c, l, _⟩ := S.cel x.1 q; exact ⟨c, l⟩
  refine wpAny_comprehension_free rfl hs (closure_is hfree) hkd (fun x hx hl => lookup_nodup hnd (by rw [← hl]; exact hx)) ?_
  refine hi.out A X s _ E g S fun I s2 t n a k2 => ?_
  refine wp_newList (by simp) (wp_compEnv ?_)
  have sz1 : (s2.heap.push (listObj [] 0)).objs.size = s2.heap.objs.size + 1 := by rw [Heap.size_push]
  obtain ⟨Y, hY, F, yD, k4, bd⟩ := comp_frame (scope := scope) (Vc := Vc) (tk := s2.toks) S k2 n a ok see rfl
  generalize e4 : pushCells ((s2.heap.push (listObj [] 0)).push { cls := .type "dict", data := .dict #[] }) scope.names = h4 at hY F k4 bd
  show codeAny (model prog w) A (.compStart _ 0 (.ref I) (.ref s2.heap.objs.size) (compEnvE scope env (clOf env scope.names []) (s2.heap.push (listObj [] 0)).objs.size)) (compPost (model prog w) A E use Q (.ref s2.heap.objs.size) (s2.heap.push (listObj [] 0)).objs.size) { s2 with heap := h4 }
  rw [sz1]
  have nY : ¬ Y I := fun y => by
    have := ((hY I).mp y).1
    obtain ⟨o, e⟩ := a
    exact absurd (Heap.lt_size e) (Nat.not_lt.mpr this)
  have fx : Fixed (fun b => X b ∨ b = I) (fun b => (X b ∨ b = I) ∨ Y b) s2.heap h4 := ⟨fun b o _ e => k4 b o e, fun b o e z => z.elim id fun y => absurd (Heap.lt_size e) (Nat.not_lt.mpr ((hY b).mp y).1)⟩
  have t4 : ItOK prog w (fun b => (X b ∨ b = I) ∨ Y b) I ds 0 h4 := t.mono g.1 fx fun o e => k4 I o e
  have core : codeAny (model prog w) A (.compLoop (.ListComp elt (⟨target, iter, ifs, 0⟩ :: gs) scope pos) 0 (.ref I) (.ref s2.heap.objs.size) (compEnvE scope env (clOf env scope.names []) (s2.heap.objs.size + 1)))
      (compPost (model prog w) A E use Q (.ref s2.heap.objs.size) (s2.heap.objs.size + 1)) { s2 with heap := h4 } := by
    refine (hc s (s2.heap.objs.size + 1) S.kept).out A _ Y _ _ I s2.heap.objs.size ds 0 [] g F (.inl (.inr rfl)) nY n t4 (Nat.zero_le _) rfl yD (Nat.ne_of_lt (Nat.lt_succ_self _)) bd (by simpa using hsz) fun h5 tk5 F5 bd5 m5 => ?_
    have nC : s.heap.get? (s2.heap.objs.size + 1) = none := k2.none (size_keep (Kp.refl _) (Nat.le_succ _))
    have nD : s.heap.get? s2.heap.objs.size = none := k2.none (get_size _)
    refine q _ _ _ ?_ nC ?_ ?_
    · obtain ⟨h2, tk2, rfl, -⟩ := k2
      exact ⟨h5, tk5, rfl, F5.st.kept⟩
    · exact F5.ow.ns
    · obtain ⟨vs, n', e, rs⟩ := bd5
      refine .list (fun z => ?_) e (rs.mono ⟨fun _ _ _ e => e, fun b o e z => ?_⟩)
      · rcases z with z | z
        · obtain ⟨o, e⟩ := S.low _ z; rw [nD] at e; cases e
        · exact absurd z (Nat.ne_of_lt (Nat.lt_succ_self _))
      · rcases z with z | z
        · refine ⟨.inl (.inl z), fun h => ?_⟩
          obtain ⟨o, e⟩ := S.low _ z
          rw [h, n] at e; cases e
        · subst z
          exact ⟨.inr F.ow.loc, fun h => nY (h ▸ F.ow.loc)⟩
  exact comp_start rfl rfl core fun E => t4.self g.1 core
theorem Ev.comp {elt target iter : Expr} {ifs : List Expr} {gs : List Comprehension} {scope : Scope} {pos : Pos} {ds out : List D} (Vc : List (Str × D))
    (see : Sees V scope Vc) (hi : EvIt prog w base k env V iter ds)
    (hc : CompGives prog w k env V base elt (⟨target, iter, ifs, 0⟩ :: gs) scope pos Vc ds out) (hsz : out.length ≤ sizeLine) (ok : compOk scope env = true := by kernel_rfl) (hs : ∀ x, foldedSetIterable iter env x = pure x := by intro _; rfl) :
    Ev prog w base k env V (.ListComp elt (⟨target, iter, ifs, 0⟩ :: gs) scope pos) (.list out) := Seal.mk fun A X s Q E g S q => by
  rw [eval_ListComp]
  refine comp_core (use := Option.none) g S ok see hs hi hc hsz fun Dd C s' ks nC ns r => ?_
  obtain ⟨m, ns⟩ := ns
  refine ⟨m, ns, fun h' sb => q _ _ (r.mono ⟨fun b o n e => (sb.2 b fun z => n (.inr z)).trans e, fun _ _ _ z => .inl z⟩) ?_⟩
  obtain ⟨h2, tk2, rfl, kp⟩ := ks
  exact ⟨h', tk2, rfl, fun b o e => (sb.2 b fun z => by rw [z, nC] at e; cases e).trans (kp b o e)⟩
end
end Mine
end
section
open PySem PySem.W PyProof.Rows
namespace Mine
section
variable (prog : Program) (w : World) (base : Heap)
noncomputable def Ex (k : Nat) (env : Env) (B : Str → Bool) (V O : List (Str × D)) (ss : List Stmt) (N : List (Str × D) → List (Str × D) → Prop) (R : D → Prop) : Prop :=
  Seal (∀ (A : Around) (X Y : Addr → Prop) (s : Shared) (Q : Flow → Shared → Prop) (E : Value → Shared → Prop), GA k A → Frm w base env B V O X Y s →
    (∀ V' O' X' Y' s', N V' O' → Frm w base env B V' O' X' Y' s' → Stp X Y s X' Y' s' → Q .next s') →
    (∀ d v X' Y' s', R d → Rep w X' s'.heap v d → Stp X Y s X' Y' s' → Kp base s'.heap → Q (.ret v) s') → wpAny (model prog w) A (execs ss env) Q E s)
/-- the same, where T holds from a state whose tokens are not none -/
noncomputable def ExT (T : Prop) (k : Nat) (env : Env) (B : Str → Bool) (V O : List (Str × D)) (ss : List Stmt) (N : List (Str × D) → List (Str × D) → Prop) (R : D → Prop) : Prop :=
  Seal (∀ (A : Around) (X Y : Addr → Prop) (s : Shared) (Q : Flow → Shared → Prop) (E : Value → Shared → Prop), GA k A → Frm w base env B V O X Y s → (T → 0 < s.toks) →
    (∀ V' O' X' Y' s', N V' O' → Frm w base env B V' O' X' Y' s' → Stp X Y s X' Y' s' → Q .next s') →
    (∀ d v X' Y' s', R d → Rep w X' s'.heap v d → Stp X Y s X' Y' s' → Kp base s'.heap → Q (.ret v) s') → wpAny (model prog w) A (execs ss env) Q E s)
noncomputable def Step (k : Nat) (env : Env) (B : Str → Bool) (V O : List (Str × D)) (st : Stmt) (V' O' : List (Str × D)) : Prop :=
  Seal (∀ (A : Around) (X Y : Addr → Prop) (s : Shared) (Q : Flow → Shared → Prop) (E : Value → Shared → Prop), GA k A → Frm w base env B V O X Y s →
    (∀ X' Y' s', Frm w base env B V' O' X' Y' s' → Stp X Y s X' Y' s' → Q .next s') → wpAny (model prog w) A (exec st env) Q E s)
end
theorem Stp.kt {X Y X' Y' : Addr → Prop} {s s1 s' : Shared} (k : Ks s s1) (t : Stp X Y s1 X' Y' s') : Stp X Y s X' Y' s' := by
  obtain ⟨h1, t1, rfl, kp⟩ := k
  obtain ⟨h2, t2, rfl⟩ := t.same
  have old : ∀ b, h1.get? b = none → s.heap.get? b = none := fun b z => by
    cases e : s.heap.get? b with
    | none => rfl
    | some o => rw [kp b o e] at z; cases z
  exact ⟨⟨h2, t2, rfl⟩, fun b o n e => t.mod b o n (kp b o e), fun b o e => t.alive b o (kp b o e), t.keepX, fun b y => (t.newY b y).imp id (old b), fun b y => (t.newX b y).imp id (old b)⟩
section
variable {prog : Program} {w : World} {base : Heap} {k : Nat} {env : Env} {B : Str → Bool} {V V' O O' : List (Str × D)} {N : List (Str × D) → List (Str × D) → Prop} {R : D → Prop}
theorem Ex.nil (h : N V O) : Ex prog w base k env B V O [] N R := Seal.mk fun A X Y s Q E g F q _ => wpAny_execs_nil (q V O X Y s h F .refl)
theorem Ex.step {st : Stmt} {rest : List Stmt} (h : Step prog w base k env B V O st V' O') (r : Ex prog w base k env B V' O' rest N R) : Ex prog w base k env B V O (st :: rest) N R := Seal.mk fun A X Y s Q E g F q qr =>
  wpAny_execs_cons (h.out A X Y s _ E g F fun X' Y' s' F' t => r.out A X' Y' s' Q E g F' (fun V'' O'' X'' Y'' s'' n F'' t' => q V'' O'' X'' Y'' s'' n F'' (t.trans F.st.low t'))
    fun d v X'' Y'' s'' rd rv t' kp => qr d v X'' Y'' s'' rd rv (t.trans F.st.low t') kp)
theorem Ex.toT {T : Prop} {ss : List Stmt} (h : Ex prog w base k env B V O ss N R) : ExT prog w base T k env B V O ss N R := Seal.mk fun A X Y s Q E g F _ => h.out A X Y s Q E g F
theorem ExT.step {T : Prop} {st : Stmt} {rest : List Stmt} (h : Step prog w base k env B V O st V' O') (r : ExT prog w base T k env B V' O' rest N R) : ExT prog w base T k env B V O (st :: rest) N R := Seal.mk fun A X Y s Q E g F tk q qr =>
  wpAny_execs_cons (wpAny_mt (h.out A X Y s _ _ g F fun X' Y' s' F' t le => r.out A X' Y' s' Q E g F' (fun z => Nat.lt_of_lt_of_le (tk z) le) (fun V'' O'' X'' Y'' s'' n F'' t' => q V'' O'' X'' Y'' s'' n F'' (t.trans F.st.low t'))
    fun d v X'' Y'' s'' rd rv t' kp => qr d v X'' Y'' s'' rd rv (t.trans F.st.low t') kp))
theorem Ex.ret {e : Expr} {p : Pos} {rest : List Stmt} {d : D} (h : Ev prog w base k env V e d) (r : R d) : Ex prog w base k env B V O (.Return (some e) p :: rest) N R := Seal.mk fun A X Y s Q E g F _ qr =>
  wpAny_execs_cons (wpAny_Return_some (h.out A X s _ E g F.st fun v s' rv ks => qr d v X Y s' r rv (.ks ks) (F.st.kept.trans ks.kp)))
theorem Ex.weak {ss : List Stmt} (h : Ex prog w base k env B V' O' ss N R) (v : ∀ x d, V'.lookup x = some d → V.lookup x = some d) (o : ∀ x d, O'.lookup x = some d → O.lookup x = some d) : Ex prog w base k env B V O ss N R :=
  Seal.mk fun A X Y s Q E g F q qr => h.out A X Y s Q E g (F.weak v o) q qr
theorem Ex.post {ss : List Stmt} {N' : List (Str × D) → List (Str × D) → Prop} {R' : D → Prop} (h : Ex prog w base k env B V O ss N' R') (n : ∀ V' O', N' V' O' → N V' O') (r : ∀ d, R' d → R d) : Ex prog w base k env B V O ss N R :=
  Seal.mk fun A X Y s Q E g F q qr => h.out A X Y s Q E g F (fun V' O' X' Y' s' z => q V' O' X' Y' s' (n V' O' z)) fun d v X' Y' s' z => qr d v X' Y' s' (r d z)
theorem Ex.freeze {ss : List Stmt} {x : Str} {d : D} (hx : O.lookup x = some d) (o : ∀ y e, O'.lookup y = some e → O.lookup y = some e ∧ y ≠ x) (sys : ∃ o, base.get? sysModules = some o) (h : Ex prog w base k env B ((x, d) :: V) O' ss N R) : Ex prog w base k env B V O ss N R :=
  Seal.mk fun A X Y s Q E g F q qr => by
    obtain ⟨X', Y', F', t, _, _⟩ := F.freeze hx o sys
    exact h.out A X' Y' s Q E g F' (fun V'' O'' X'' Y'' s'' n F'' t' => q V'' O'' X'' Y'' s'' n F'' (t.trans F.st.low t')) fun d v X'' Y'' s'' rd rv t' kp => qr d v X'' Y'' s'' rd rv (t.trans F.st.low t') kp
theorem Step.assign {x : Str} {p p' : Pos} {e : Expr} {d : D} (h : Ev prog w base k env V e d) (hb : B x = true) (ho : O.lookup x = none) (hs : swapsWith e (some (.Name x p')) p.line env = pure false := by rfl) :
    Step prog w base k env B V O (.Assign [.Name x p'] e p) ((x, d) :: V) O := Seal.mk fun A X Y s Q E g F q =>
  wpAny_Assign_Name (h.out A X s _ E g F.st fun v s' rv ks => store_V (F.ks ks) (F.ow.bnd x hb) ho rv fun s'' F' t _ => q X Y s'' F' (t.kt ks)) hs
theorem Step.assignTup {elts : List Expr} {n : Nat} {tp p : Pos} {e : Expr} {d : D} (h : Ev prog w base k env V e d) (ht : Tgt prog w base k env B V O (.Tuple elts n tp) d V')
    (hs : swapsWithSole [.Tuple elts n tp] e p.line env = pure false := by rfl) (hw : swappedStores [.Tuple elts n tp] e env = pure none := by rfl) : Step prog w base k env B V O (.Assign [.Tuple elts n tp] e p) V' O := Seal.mk fun A X Y s Q E g F q =>
  PyProof.Rows.Assign_Tuple (h.out A X s _ E g F.st fun v s' rv ks => ht.out A X Y s' v _ E g (F.ks ks) rv fun s'' F' t _ => q X Y s'' F' (t.kt ks)) hs hw
theorem exec_use {x : Str} {p p' : Pos} {e : Expr} (hs : swapsWith e (some (.Name x p')) p.line env = pure true) : exec (.Assign [.Name x p'] e p) env = (do standAt p; evalThenUse e env (assign (.Name x p') env); return .next) := by
  have e1 : exec (.Assign [.Name x p'] e p) env = (do
      standAt p
      if ← swapsWith e (some (.Name x p')) p.line env then
        evalThenUse e env (assign (.Name x p') env)
        return .next
      let v ← eval e env
      standAt p'
      bindName env x v
      pure .next) := rfl
  rw [e1, hs]; rfl
theorem Step.assignComp {x : Str} {p p' : Pos} {elt target iter : Expr} {ifs : List Expr} {gs : List Comprehension} {scope : Scope} {pos : Pos} {ds out : List D} (Vc : List (Str × D))
    (see : Sees V scope Vc) (hi : EvIt prog w base k env V iter ds)
    (hc : CompGives prog w k env V base elt (⟨target, iter, ifs, 0⟩ :: gs) scope pos Vc ds out) (hb : B x = true) (ho : O.lookup x = none) (hsz : out.length ≤ sizeLine) (ok : compOk scope env = true := by kernel_rfl) (hs : ∀ x, foldedSetIterable iter env x = pure x := by intro _; rfl)
    (hw : swapsWith (.ListComp elt (⟨target, iter, ifs, 0⟩ :: gs) scope pos) (some (.Name x p')) p.line env = pure true := by rfl) :
    Step prog w base k env B V O (.Assign [.Name x p'] (.ListComp elt (⟨target, iter, ifs, 0⟩ :: gs) scope pos) p) ((x, .list out) :: V) O := Seal.mk fun A X Y s Q E g F q => by
  rw [exec_use hw]
  refine wpAny_bind (wpAny_standAt (wpAny_bind ?_))
  show wpAny _ _ (comprehension (.ListComp elt (⟨target, iter, ifs, 0⟩ :: gs) scope pos) scope env (firstIterPos (⟨target, iter, ifs, 0⟩ :: gs) pos) (newList []) false (eval iter env) (some (PySem.assign (.Name x p') env)) >>= _) _ _ s
  refine wpAny_bind (comp_core (use := some (PySem.assign (.Name x p') env)) g F.st ok see hs hi hc hsz fun Dd C s' ks nC ns r => ?_)
  have aC : ∃ o, s'.heap.get? C = some o := let ⟨_, o, _, _, e, _⟩ := ns; ⟨o, e⟩
  have nY : ¬ Y C := fun y => by obtain ⟨o, e⟩ := F.st.low C (F.ow.sub C y).1; rw [nC] at e; cases e
  have nX : ¬ X C := fun y => by obtain ⟨o, e⟩ := F.st.low C y; rw [nC] at e; cases e
  have bC : base.get? C = none := by
    cases e : base.get? C with
    | none => rfl
    | some o => rw [F.st.kept C o e] at nC; cases nC
  obtain ⟨m, ns⟩ := ns
  refine wpAny_assign_Name (store_V (F.add nC ks aC) (F.ow.bnd x hb) ho r fun s2 F2 t2 _ => ?_)
  refine ⟨m, ns.at' fun o e => t2.mod C o nY e, fun h' sb => ?_⟩
  have F3 : Frm w base env B ((x, .list out) :: V) O X Y { s2 with heap := h' } := F2.touch (tk := s2.toks) nY (.inr rfl) bC (fun b o n e => (sb.2 b n).trans e) (fun b z => .inl z) (fun b y => (F.ow.sub b y).1) fun z => absurd z nX
  refine wpAny_pure (wpAny_pure (q X Y _ F3 ?_))
  obtain ⟨h1, t1, rfl, kp⟩ := ks
  obtain ⟨h2, t2', rfl⟩ := t2.same
  have ne : ∀ b o, s.heap.get? b = some o → b ≠ C := fun b o e z => by rw [z, nC] at e; cases e
  refine ⟨⟨h', t2', rfl⟩, fun b o n e => (sb.2 b (ne b o e)).trans (t2.mod b o n (kp b o e)), fun b o e => ?_, fun _ x _ => x, fun _ y => .inl y, fun _ x => .inl x⟩
  obtain ⟨o', e'⟩ := t2.alive b o (kp b o e)
  exact ⟨o', (sb.2 b (ne b o e)).trans e'⟩
theorem Ex.ifT {t : Expr} {body orelse rest : List Stmt} {p : Pos} {N1 : List (Str × D) → List (Str × D) → Prop} (h : Tr prog w base k env V t true) (hb : Ex prog w base k env B V O body N1 R) (hr : ∀ V' O', N1 V' O' → Ex prog w base k env B V' O' rest N R) :
    Ex prog w base k env B V O (.If t body orelse p :: rest) N R := Seal.mk fun A X Y s Q E g F q qr => by
  refine wpAny_execs_cons (wpAny_If (h.out A X s _ E g F.st fun s1 k1 => ?_))
  rw [if_pos rfl]
  exact hb.out A X Y s1 _ E g (F.ks k1) (fun V' O' X' Y' s2 n F' t => (hr V' O' n).out A X' Y' s2 Q E g F' (fun V'' O'' X'' Y'' s3 n' F'' t' => q V'' O'' X'' Y'' s3 n' F'' ((t.trans (F.ks k1).st.low t').kt k1))
    fun d v X'' Y'' s3 rd rv t' kp => qr d v X'' Y'' s3 rd rv ((t.trans (F.ks k1).st.low t').kt k1) kp) fun d v X' Y' s2 rd rv t kp => qr d v X' Y' s2 rd rv (t.kt k1) kp
theorem Ex.ifF {t : Expr} {body orelse rest : List Stmt} {p : Pos} {N1 : List (Str × D) → List (Str × D) → Prop} (h : Tr prog w base k env V t false) (hb : Ex prog w base k env B V O orelse N1 R) (hr : ∀ V' O', N1 V' O' → Ex prog w base k env B V' O' rest N R) :
    Ex prog w base k env B V O (.If t body orelse p :: rest) N R := Seal.mk fun A X Y s Q E g F q qr => by
  refine wpAny_execs_cons (wpAny_If (h.out A X s _ E g F.st fun s1 k1 => ?_))
  rw [if_neg Bool.false_ne_true]
  exact hb.out A X Y s1 _ E g (F.ks k1) (fun V' O' X' Y' s2 n F' t => (hr V' O' n).out A X' Y' s2 Q E g F' (fun V'' O'' X'' Y'' s3 n' F'' t' => q V'' O'' X'' Y'' s3 n' F'' ((t.trans (F.ks k1).st.low t').kt k1))
    fun d v X'' Y'' s3 rd rv t' kp => qr d v X'' Y'' s3 rd rv ((t.trans (F.ks k1).st.low t').kt k1) kp) fun d v X' Y' s2 rd rv t kp => qr d v X' Y' s2 rd rv (t.kt k1) kp
end
end Mine
end
section
open PySem PySem.W PyProof.Rows
namespace Mine
section
variable {prog : Program} {w : World} {base : Heap} {k : Nat} {env : Env} {B : Str → Bool} {V V' O O' : List (Str × D)} {N : List (Str × D) → List (Str × D) → Prop} {R : D → Prop}
theorem Stp.add {X Y : Addr → Prop} {s s' : Shared} {I : Addr} (n : s.heap.get? I = none) (k : Ks s s') : Stp X Y s (fun b => X b ∨ b = I) Y s' := by
  obtain ⟨h, tk, rfl, e⟩ := k
  exact ⟨⟨h, tk, rfl⟩, fun b o _ q => e b o q, fun b o q => ⟨o, e b o q⟩, fun _ x _ => .inl x, fun _ y => .inl y, fun b x => Or.imp id (fun z : b = I => by rw [z]; exact n) x⟩
theorem Ex.for {x : Str} {px p : Pos} {iter : Expr} {body rest : List Stmt} {ds : List D} (hi : EvIt prog w base k env V iter ds) (I : Nat → List (Str × D) → List (Str × D) → Prop) (h0 : I 0 V O) (hb : B x = true)
    (turn : ∀ i d Vi Oi, ds[i]? = some d → I i Vi Oi → Oi.lookup x = none ∧ Ex prog w base k env B ((x, d) :: Vi) Oi body (I (i + 1)) R)
    (hr : ∀ V' O', I ds.length V' O' → Ex prog w base k env B V' O' rest N R) (hs : ∀ x, foldedSetIterable iter env x = pure x := by intro _; rfl) :
    Ex prog w base k env B V O (.For (.Name x px) iter body [] p :: rest) N R := Seal.mk fun A X Y s Q E g F q qr => by
  refine wpAny_execs_cons (wpAny_For (hi.out A X s _ E g F.st fun It s2 t2 n2 a2 k2 => ?_) hs)
  have nY2 : ¬ Y It := fun y => by obtain ⟨z, e⟩ := F.st.low _ (F.ow.sub _ y).1; rw [n2] at e; cases e
  have bI : base.get? It = none := by
    cases z : base.get? It with
    | none => rfl
    | some z' => have := F.st.kept _ _ z; rw [n2] at this; cases this
  have F2 := F.add n2 k2 a2
  have low2 := F2.st.low
  have T0 : Stp X Y s (fun b => X b ∨ b = It) Y s2 := .add n2 k2
  refine codeAny_forLoop (fun n s' => ∃ i Vi Oi X' Y', n = ds.length - i ∧ i ≤ ds.length ∧ I i Vi Oi ∧ Frm w base env B Vi Oi X' Y' s' ∧ X' It ∧ ¬ Y' It ∧ ItOK prog w X' It ds i s'.heap ∧ Stp X Y s X' Y' s') ?_ ds.length
    ⟨0, V, O, _, Y, rfl, Nat.zero_le _, h0, F2, .inr rfl, nY2, t2, T0⟩
  rintro n s1 ⟨i, Vi, Oi, X1, Y1, rfl, hle, hI, F1, xI, nI, t1, T1⟩
  rcases Nat.lt_or_ge i ds.length with hlt | hge
  · refine t1.item g.1 hlt xI fun d v h' tk l r t' kp ⟨oI, eI, _⟩ => ?_
    have F1' : Frm w base env B Vi Oi X1 Y1 { s1 with heap := h', toks := tk } := F1.touch nI xI bI kp (fun _ z => z) (fun b y => (F1.ow.sub b y).1) fun _ => ⟨oI, eI⟩
    have T1' : Stp X Y s X1 Y1 { s1 with heap := h', toks := tk } := by
      obtain ⟨hh, tt, e⟩ := T1.same
      have ne : ∀ b o, s.heap.get? b = some o → b ≠ It := fun b o e z => by rw [z, n2] at e; cases e
      refine ⟨⟨h', tk, by rw [e]⟩, fun b o n e => kp b o (ne b o e) (T1.mod b o n e), fun b o e => ?_, T1.keepX, T1.newY, T1.newX⟩
      obtain ⟨o', e'⟩ := T1.alive b o e
      exact ⟨o', kp b o' (ne b o e) e'⟩
    obtain ⟨ho, ex⟩ := turn i d Vi Oi l hI
    refine wpAny_assign_Name (store_V F1' (F1'.ow.bnd x hb) ho r fun s3 F3 t3 _ => ?_)
    have t3' : ItOK prog w X1 It ds (i + 1) s3.heap := t'.mono g.1 (t3.fixed (fun b y => (F1'.ow.sub b y).1) fun _ z => .inl z) fun o e => t3.mod It o nI e
    refine ex.out A X1 Y1 s3 _ _ g F3 (fun V'' O'' X4 Y4 s4 n4 F4 t4 => ?_) fun d' v' X4 Y4 s4 rd rv t4 kp4 => qr d' v' X4 Y4 s4 rd rv ((T1'.trans F.st.low t3).trans F.st.low t4) kp4
    have nI4 : ¬ Y4 It := fun y => (t4.newY It y).elim nI fun z => by
      obtain ⟨o, e⟩ := F3.st.low It xI
      rw [z] at e; cases e
    obtain ⟨oI3, eI3⟩ := F3.st.low It xI
    refine ⟨ds.length - (i + 1), by omega, i + 1, V'', O'', X4, Y4, rfl, hlt, n4, F4, t4.keepX It xI nI, nI4, ?_, (T1'.trans F.st.low t3).trans F.st.low t4⟩
    exact t3'.mono g.1 (t4.fixed' (fun b y => (F3.ow.sub b y).1)) fun o e => t4.mod It o nI e
  · have hi' : i = ds.length := Nat.le_antisymm hle hge
    subst hi'
    refine t1.done g.1 fun h' tk kp => wpAny_execs_nil ?_
    have ne : ∀ b o, s.heap.get? b = some o → b ≠ It := fun b o e z => by rw [z, n2] at e; cases e
    have F3 : Frm w base env B Vi Oi (fun b => X1 b ∧ b ≠ It) Y1 { s1 with heap := h', toks := tk } := F1.touch nI xI bI kp (fun b z => z.1) (fun b y => ⟨(F1.ow.sub b y).1, fun e => nI (e ▸ y)⟩) fun z => absurd rfl z.2
    have T3 : Stp X Y s (fun b => X1 b ∧ b ≠ It) Y1 { s1 with heap := h', toks := tk } := by
      obtain ⟨hh, tt, e⟩ := T1.same
      refine ⟨⟨h', tk, by rw [e]⟩, fun b o n e => kp b o (ne b o e) (T1.mod b o n e), fun b o e => ?_, fun b x n => ⟨T1.keepX b x n, ?_⟩, T1.newY, fun b x => T1.newX b x.1⟩
      · obtain ⟨o', e'⟩ := T1.alive b o e
        exact ⟨o', kp b o' (ne b o e) e'⟩
      · obtain ⟨o, e⟩ := F.st.low b x
        exact ne b o e
    exact (hr Vi Oi hI).out A _ Y1 _ Q E g F3 (fun V'' O'' X'' Y'' s'' n F'' t' => q V'' O'' X'' Y'' s'' n F'' (T3.trans F.st.low t')) fun d v X'' Y'' s'' rd rv t' kp' => qr d v X'' Y'' s'' rd rv (T3.trans F.st.low t') kp'
end
end Mine
end
section
open PySem PySem.W PyProof.Rows
namespace Mine
section
variable {prog : Program} {w : World} {M : Model} {A : Around} {E : Value → Shared → Prop} {s s1 : Shared} {base : Heap} {k : Nat} {env : Env} {B : Str → Bool} {X Y : Addr → Prop} {V V' O O' : List (Str × D)} {N : List (Str × D) → List (Str × D) → Prop} {R : D → Prop}
theorem store_new {x : Str} {d : D} {a : Addr} {Q : Unit → Shared → Prop} (F : Frm w base env B V O X Y s) (ks : Ks s s1) (n : s.heap.get? a = none) (bd : Body w (fun b => X b ∨ b = a) s1.heap a d) (hx : Bnd env Y x) (hv : V.lookup x = none)
    (h : ∀ s', Frm w base env B V ((x, d) :: O) (fun b => X b ∨ b = a) (fun b => Y b ∨ b = a) s' → Stp X Y s (fun b => X b ∨ b = a) (fun b => Y b ∨ b = a) s' → Q () s') : wpAny M A (storeName env x (.ref a)) Q E s1 := by
  have al : ∃ o, s1.heap.get? a = some o := by
    cases d with
    | list ds => obtain ⟨vs, n, e, _⟩ := bd; exact ⟨_, e⟩
    | dict ds => obtain ⟨o, kvs, e, _⟩ := bd; exact ⟨_, e⟩
    | _ => exact bd.elim
  have F1 := F.add n ks al
  have nY : ¬ Y a := fun y => by obtain ⟨o, e⟩ := F.st.low a (F.ow.sub a y).1; rw [n] at e; cases e
  have bA : base.get? a = none := by
    cases e : base.get? a with
    | none => rfl
    | some o => rw [F.st.kept a o e] at n; cases n
  have nl : a ≠ env.locals := fun e => nY (e ▸ F.ow.loc)
  have nca : ∀ y c, env.kindOf y = some .cell → env.cells.lookup y = some c → c ≠ a := fun y c k l e => by
    obtain ⟨c', l', o, e'⟩ := F.st.cel y k
    rw [l] at l'; cases l'; rw [e, n] at e'; cases e'
  refine store_core F1.st.kind F1.ow hx fun s' t ow vx vy keep => h s' ⟨?_, ⟨fun b y => ?_, .inl F1.ow.loc, ow.ns, fun y c kc l yc => ?_, fun y c kc l => (ow.cel y c kc l).imp .inl id, fun y hy => (ow.bnd y hy).imp id fun ⟨a, c, b, z⟩ => ⟨a, c, b, .inl z⟩⟩, ?_⟩ ?_
  · have fx : Fixed (fun b => X b ∨ b = a) (fun b => X b ∨ b = a) s1.heap s'.heap := t.fixed (fun b y => (F1.ow.sub b y).1) fun _ x => .inl x
    refine ⟨t.kept F1.st.kept fun b y => (F1.ow.sub b y).2, F1.st.kind, F1.st.glob, F1.st.blt, fun b xb => let ⟨o, e⟩ := F1.st.low b xb; t.alive b o e, fun y hy => let ⟨c, l, o, e⟩ := F1.st.cel y hy; ⟨c, l, t.alive c o e⟩, F1.st.sta, fun y d' l => ?_⟩
    have ne : y ≠ x := fun e => by subst e; rw [hv] at l; cases l
    obtain ⟨u, q, r⟩ := F1.st.vars y d' l
    exact ⟨u, vy y u ne q, r.mono fx⟩
  · rcases y with y | y
    · exact F1.ow.sub b y
    · subst y; exact ⟨.inr rfl, bA⟩
  · rcases yc with yc | yc
    · exact ow.cells y c kc l yc
    · exact absurd yc (nca y c kc l)
  · have fx : Fixed (fun b => X b ∨ b = a) (fun b => X b ∨ b = a) s1.heap s'.heap := t.fixed (fun b y => (F1.ow.sub b y).1) fun _ x => .inl x
    obtain ⟨ad, f, g⟩ := F1.owd
    have adne : ∀ y, O.lookup y ≠ none → ad y ≠ a := fun y hy e => by
      cases q : O.lookup y with
      | none => exact hy q
      | some d' => exact nY (e ▸ (f y d' q).2.1)
    refine ⟨fun y => if y = x then a else ad y, fun y d' l => ?_, fun y z hy hz e => ?_⟩ <;> dsimp only at *
    · by_cases e : y = x
      · subst e
        simp at l
        subst l
        rw [if_pos rfl]
        exact ⟨vx, .inr rfl, nl, bd.stay fx fun o c e => keep a o e nl c⟩
      · have : (y == x) = false := by simpa using e
        rw [List.lookup_cons, this] at l
        rw [if_neg e]
        obtain ⟨p, b, c, q⟩ := f y d' l
        exact ⟨vy y _ e p, .inl b, c, q.stay fx fun o h e => keep _ o e c h⟩
    · by_cases e1 : y = x
      · by_cases e2 : z = x
        · rw [e1, e2]
        · rw [if_pos e1, if_neg e2] at e
          have : (z == x) = false := by simpa using e2
          rw [List.lookup_cons, this] at hz
          exact absurd e.symm (adne z hz)
      · have hb1 : (y == x) = false := by simpa using e1
        rw [List.lookup_cons, hb1] at hy
        by_cases e2 : z = x
        · rw [if_neg e1, if_pos e2] at e
          exact absurd e (adne y hy)
        · have hb2 : (z == x) = false := by simpa using e2
          rw [List.lookup_cons, hb2] at hz
          rw [if_neg e1, if_neg e2] at e
          exact g y z hy hz e
  · obtain ⟨h1, t1, rfl, kp⟩ := ks
    obtain ⟨h2, t2, rfl⟩ := t.same
    exact ⟨⟨h2, t2, rfl⟩, fun b o ny e => t.mod b o ny (kp b o e), fun b o e => t.alive b o (kp b o e), fun b x _ => .inl x, fun b y => y.imp id fun e => by rw [e]; exact n, fun b y => y.imp id fun e => by rw [e]; exact n⟩
theorem Step.newList {x : Str} {p p' q : Pos} (hb : B x = true) (hv : V.lookup x = none) : Step prog w base k env B V O (.Assign [.Name x p'] (.List [] q) p) V ((x, .list []) :: O) := Seal.mk fun A X Y s Q E g F h =>
  wpAny_Assign_Name (List_ (Calls.spliced_nil (wp_newList (by simp) (store_new (d := .list []) F (.push0 s _) (get_size _) ⟨[], 0, Heap.get?_push_size _ rfl, .nil⟩ (F.ow.bnd x hb) hv fun s' F' t => h _ _ s' F' t)))) rfl
theorem Step.newDict {x : Str} {p p' q : Pos} (hb : B x = true) (hv : V.lookup x = none) : Step prog w base k env B V O (.Assign [.Name x p'] (.Dict [] [] q) p) V ((x, .dict []) :: O) := Seal.mk fun A X Y s Q E g F h => by
  refine wpAny_Assign_Name ?_ rfl
  rw [eval_Dict_empty]
  refine wpAny_bind (wpAny_standAt ?_)
  unfold PySem.newDict
  refine wpAny_newObj_type ?_
  exact store_new (d := .dict []) F (.push0 s _) (get_size _) ⟨_, [], Heap.get?_push_size _ rfl, ⟨#[], 0, ⟨rfl, rfl, rfl⟩, rfl, (fun e he => by simp at he), .nil, by simp⟩, rfl, .nil⟩ (F.ow.bnd x hb) hv fun s' F' t => h _ _ s' F' t
theorem Frm.mutate {x : Str} {d : D} (F : Frm w base env B V O X Y s) (hx : O.lookup x = some d) : ∃ a, VarIs s.heap env x (.ref a) ∧ Y a ∧ a ≠ env.locals ∧ Body w X s.heap a d ∧
    ∀ s1, Ks s s1 → ∀ h' d', Heap.SameBut a s1.heap h' → Body w X h' a d' → Frm w base env B V ((x, d') :: O) X Y { s1 with heap := h' } ∧ Stp X Y s X Y { s1 with heap := h' } := by
  obtain ⟨ad, f, g⟩ := F.owd
  obtain ⟨vx, ya, nl, bd⟩ := f x d hx
  refine ⟨ad x, vx, ya, nl, bd, fun s1 ks h' d' sb bd' => ?_⟩
  have F1 := F.ks ks
  have bd1 : Body w X s1.heap (ad x) d := bd.mono (.kp ks.kp) (ks.kp _)
  have nc := body_nc bd1
  have al : ∃ o, h'.get? (ad x) = some o := by
    cases d' with
    | list ds => obtain ⟨vs, n, e, _⟩ := bd'; exact ⟨_, e⟩
    | dict ds => obtain ⟨o, kvs, e, _⟩ := bd'; exact ⟨_, e⟩
    | _ => exact bd'.elim
  have xa := (F.ow.sub _ ya).1
  have fx : Fixed X X s1.heap h' := ⟨fun b o n e => (sb.2 b fun z => n (z ▸ xa)).trans e, fun _ _ _ q => q⟩
  refine ⟨⟨F1.st.poke xa (F.ow.sub _ ya).2 nl nc sb al, F1.ow.poke nl nc sb, ad, fun y e l => ?_, fun y z hy hz e => ?_⟩, ?_⟩
  · by_cases e' : y = x
    · subst e'
      simp at l
      subst l
      exact ⟨(vx.kp ks.kp).poke nl nc sb, ya, nl, bd'⟩
    · have hb : (y == x) = false := by simpa using e'
      rw [List.lookup_cons, hb] at l
      have l : O.lookup y = some e := l
      obtain ⟨p, b, c, q⟩ := f y e l
      refine ⟨(p.kp ks.kp).poke nl nc sb, b, c, ?_⟩
      have ne : ad y ≠ ad x := fun h => e' (g y x (by rw [l]; simp) (by rw [hx]; simp) h)
      exact (q.mono (.kp ks.kp) (ks.kp _)).mono fx fun o h => (sb.2 _ ne).trans h
  · have up : ∀ y, ((x, d') :: O).lookup y ≠ none → O.lookup y ≠ none := fun y h => by
      by_cases e' : y = x
      · rw [e', hx]; simp
      · have hb : (y == x) = false := by simpa using e'
        intro z; exact h (by rw [List.lookup_cons, hb]; exact z)
    exact g y z (up y hy) (up z hz) e
  · obtain ⟨h1, t1, rfl, kp⟩ := ks
    exact ⟨⟨h', t1, rfl⟩, fun b o n e => (sb.2 b fun z => n (z ▸ ya)).trans (kp b o e), fun b o e => alive_but sb al b o (kp b o e), fun _ x _ => x, fun _ y => .inl y, fun _ y => .inl y⟩
theorem name_own {x : Str} {v : Value} {p : Pos} {Q : Value → Shared → Prop} (kd : env.scope.kind = .function) (hv : VarIs s.heap env x v) (h : Q v s) (hd : (x == ("__debug__" : Str)) = false := by decide) : wpAny M A (eval (.Name x p) env) Q E s := by
  refine wpAny_Name ?_ hd
  rcases hv with ⟨hk, m, n, e⟩ | ⟨hk, c, l, e⟩
  · exact wpAny_loadName_local kd hk n e h
  · exact wpAny_loadName_cell kd hk l e h
theorem Step.append {x : Str} {p1 p2 p3 p4 : Pos} {e : Expr} {d : D} {ds : List D} (hx : O.lookup x = some (.list ds)) (he : Ev prog w base k env V e d) (hsz : ds.length ≤ sizeLine)
    (hbase : attributeBase (.Name x p1) "append" env (eval (.Name x p1) env) = eval (.Name x p1) env := by rfl) (hline : (p2.endLine == p3.line) = true := by rfl)
    (htrees : backTo p3 (starEach [e] env) = [(false, eval e env)] := by rfl) (hi : interactive env = false := by rfl) (hd : (x == ("__debug__" : Str)) = false := by decide) :
    Step prog w base k env B V O (.Expr (.Call (.Attribute (.Name x p1) "append" p2) [e] [] p3) p4) V ((x, .list (ds ++ [d])) :: O) := Seal.mk fun A X Y s Q E g F h => by
  obtain ⟨a, vx, ya, nl, bd, mu⟩ := F.mutate hx
  refine wpAny_Expr ?_ hi (by rfl)
  refine wpAny_Call_method hbase (by rw [htrees]; rfl) hline PySem.F.plainAttrs_list PySem.F.slot_list_append PySem.F.type_list_append (name_own F.st.kind vx ?_ hd)
  obtain ⟨vs, n, e1, rs⟩ := id bd
  refine ⟨⟨_, e1, rfl⟩, fun a' ea => by cases ea; exact ⟨_, e1, rfl⟩, ?_⟩
  rw [htrees]
  refine PySem.P.append_list (he.out A X s _ E g F.st fun v s1 r ks => ?_)
  refine ⟨vs.toArray, n, by rw [List.size_toArray, rs.length]; exact hsz, ks.kp _ _ e1, ?_⟩
  have e1' := ks.kp _ _ e1
  have e2 : (s1.heap.update a (Obj.mapSeq fun xs => xs.push v)).get? a = some (listObj (vs ++ [v]) (n + 1)) := by
    rw [Heap.get?_update_self _ e1' (by unfold listObj; rw [Obj.mapSeq_push_plain]; rfl)]; unfold listObj; rw [Obj.mapSeq_push_plain]; simp
  have sb : Heap.SameBut a s1.heap (s1.heap.update a (Obj.mapSeq fun xs => xs.push v)) := Heap.SameBut.update ..
  have xa := (F.ow.sub _ ya).1
  have fx : Fixed X X s1.heap (s1.heap.update a (Obj.mapSeq fun xs => xs.push v)) := ⟨fun b o n e => (sb.2 b fun z => n (z ▸ xa)).trans e, fun _ _ _ q => q⟩
  obtain ⟨F', t⟩ := mu s1 ks _ (.list (ds ++ [d])) sb ⟨_, _, e2, ((rs.kp ks.kp).mono fx).append (.cons (r.mono fx) .nil)⟩
  exact h X Y _ F' t
end
end Mine
end
section
open PySem PySem.W PyProof.Rows
namespace Mine
theorem bindL_skip {ko : Str → Option NameKind} {x : Str} : ∀ {bs : List (Str × Value)} {m : Str → Option Value}, x ∉ bs.map (·.1) → bindL ko bs m x = m x
  | [], _, _ => rfl
  | (n, v) :: r, m, h => by
    simp only [List.map_cons, List.mem_cons, not_or] at h
    unfold bindL
    rw [bindL_skip h.2]
    split
    · simp only [if_neg h.1]
    · rfl
theorem bindC_skip {ko : Str → Option NameKind} {x : Str} : ∀ {bs : List (Str × Value)} {m : Str → Option Value}, x ∉ bs.map (·.1) → bindC ko bs m x = m x
  | [], _, _ => rfl
  | (n, v) :: r, m, h => by
    simp only [List.map_cons, List.mem_cons, not_or] at h
    unfold bindC
    rw [bindC_skip h.2]
    split
    · rfl
    · simp only [if_neg h.1]
theorem bindL_get {ko : Str → Option NameKind} {x : Str} {v : Value} (k : ko x = some .local) : ∀ {bs : List (Str × Value)} {m : Str → Option Value}, (bs.map (·.1)).Nodup → (x, v) ∈ bs → bindL ko bs m x = some v
  | (n, u) :: r, m, hn, h => by
    rw [List.map_cons, List.nodup_cons] at hn
    unfold bindL
    rcases List.mem_cons.mp h with h | h
    · injection h with h1 h2; subst h1 h2
      rw [bindL_skip hn.1, if_pos k]; simp
    · exact bindL_get k hn.2 h
theorem bindC_get {ko : Str → Option NameKind} {x : Str} {v : Value} (k : ko x ≠ some .local) : ∀ {bs : List (Str × Value)} {m : Str → Option Value}, (bs.map (·.1)).Nodup → (x, v) ∈ bs → bindC ko bs m x = some v
  | (n, u) :: r, m, hn, h => by
    rw [List.map_cons, List.nodup_cons] at hn
    unfold bindC
    rcases List.mem_cons.mp h with h | h
    · injection h with h1 h2; subst h1 h2
      rw [bindC_skip hn.1, if_neg k]; simp
    · exact bindC_get k hn.2 h
theorem zip_fst {α β : Type} : ∀ {l : List α} {r : List β}, r.length = l.length → (l.zip r).map (·.1) = l
  | [], _, _ => by simp
  | a :: l, [], h => by simp at h
  | a :: l, b :: r, h => by simp only [List.zip_cons_cons, List.map_cons]; rw [zip_fst (by simpa using h)]
theorem zip_rep {P : World} {X : Addr → Prop} {h : Heap} : ∀ {ps : List Str} {vs : List Value} {ds : List D} {x : Str} {d : D}, RepAll P X h vs ds → (ps.zip ds).lookup x = some d → ∃ v, (x, v) ∈ ps.zip vs ∧ Rep P X h v d
  | [], _, _, _, _, _, l => by simp at l
  | _ :: _, [], [], _, _, _, l => by simp at l
  | p :: ps, v :: vs, e :: ds, x, d, .cons a r, l => by
    rw [List.zip_cons_cons] at l ⊢
    cases hb : x == p with
    | true =>
      rw [List.lookup_cons, hb] at l
      cases l
      exact ⟨v, by rw [beq_iff_eq.mp hb]; exact List.mem_cons_self, a⟩
    | false =>
      rw [List.lookup_cons, hb] at l
      obtain ⟨u, m, q⟩ := zip_rep r l
      exact ⟨u, List.mem_cons_of_mem _ m, q⟩
structure DefIs (base : Heap) (a : Addr) (fd : FuncData) : Prop where
  ob : ∃ o, base.get? a = some o ∧ o.data = .func fd
  lim : base.NoLimit
  code : base.CodeRec fd.code fd.qualname
  clo : fd.closure = []
  glob : fd.globals = mainGlobals
  blt : fd.builtins = builtinsNs
  co : fd.scope.isCoroutine = false
  gen : fd.scope.isGenerator = false
  kind : fd.scope.kind = .function
theorem DefIs.fn {base : Heap} {a : Addr} {fd : FuncData} (h : DefIs base a fd) : FnIs base a fd := h.ob
theorem DefIs.kp {base base' : Heap} {a : Addr} {fd : FuncData} (h : DefIs base a fd) (k : Kp base base') : DefIs base' a fd :=
  { h with ob := let ⟨o, e, d⟩ := h.ob; ⟨o, k _ _ e, d⟩, lim := let ⟨m, n, q⟩ := h.lim; ⟨m, n.keeps k, q⟩, code := h.code.keeps k }
section
variable {prog : Program} {w : World} {base : Heap} {k : Nat}
noncomputable def OpLT (T : Prop) (prog : Program) (w : World) (base : Heap) (k : Nat) (f : List Value → Sem Value) (as : List D) (d : D) : Prop :=
  Seal (∀ (A : Around) (X : Addr → Prop) (s : Shared) (Q : Value → Shared → Prop) (E : Value → Shared → Prop) (vs : List Value), GA k A → Ok base X s → RepAll w X s.heap vs as → (T → 0 < s.toks) →
    (∀ v' s', Rep w X s'.heap v' d → Ks s s' → Q v' s') → wpAny (model prog w) A (f vs) Q E s)
theorem OpL.T {T : Prop} {f : List Value → Sem Value} {as : List D} {d : D} (h : OpL prog w base k f as d) : OpLT T prog w base k f as d := Seal.mk fun A X s Q E vs g o r _ => h.out A X s Q E vs g o r
theorem OpLT.all {f : List Value → Sem Value} {as : List D} {d : D} (h : OpLT False prog w base k f as d) : OpL prog w base k f as d := Seal.mk fun A X s Q E vs g o r => h.out A X s Q E vs g o r False.elim
theorem call_cells_mt {A : Around} {s : Shared} {R : Result → Shared → Prop} {a : Addr} {o : Obj} {fd : FuncData} {body : List Stmt} {vals : List Value} {binds : List (Str × Value)}
    (hroom : A.depth < recursionLimit) (ho : s.heap.get? a = some o) (hdata : o.data = .func fd) (hlim : s.heap.NoLimit) (hcd : s.heap.CodeRec fd.code fd.qualname)
    (hbody : fd.body = .stmts body) (hbind : BindsTo s fd ⟨vals, []⟩ binds) (hclo : fd.closure = [])
    (hkind : ∀ x ∈ binds, fd.scope.names.lookup x.1 = some .local ∨ (fd.scope.names.lookup x.1 = some .cell ∧ ((cellsFrom (s.heap.objs.size + 1) fd.scope.names []).lookup x.1).isSome = true))
    (h : ∀ s₁, s.toks ≤ s₁.toks → InCallC s (callEnvC fd s.heap.objs.size a).locals (bindL (callEnvC fd s.heap.objs.size a).kindOf binds fun _ => none) (callEnvC fd s.heap.objs.size a).cells
        (bindC (callEnvC fd s.heap.objs.size a).kindOf binds fun _ => none) s₁ →
      wpAny (model prog w) (A.deeper (callEnvC fd s.heap.objs.size a)) (execs body (callEnvC fd s.heap.objs.size a)) (fun f s' => R (.ok (.ret (match f with | .ret v => v | _ => .none))) s')
        (fun e s' => wpAny (model prog w) (A.deeper (callEnvC fd s.heap.objs.size a)) (leaving (callEnvC fd s.heap.objs.size a) e) (fun _ s'' => R (.error e) s'') (fun e' s'' => R (.error e') s'') s') s₁)
    (hco : fd.scope.isCoroutine = false) (hgen : fd.scope.isGenerator = false) (hk : fd.scope.kind = .function) :
    codeAny (model prog w) A (.call (.ref a) ⟨vals, []⟩) R s := by
  refine codeAny_call_function hroom ho hdata hco hgen hbody hcd ?_
  rw [hclo]
  refine hbind _ _ _ _ (wpAny_mt (wpAny_newFunctionEnv_cells hk hkind fun env he s' x le => ?_))
  subst he
  exact ⟨hlim.keeps x.toInCall.keep, codeAny_func (h s' le x)⟩
theorem OpLT.defD {T : Prop} {a : Addr} {fd : FuncData} {body : List Stmt} {ps : List Str} {ds dd : List D} {dv : List Value} {d : D} (hdv : ∀ X h, RepAll w X h dv dd) (hf : DefIs base a fd) (hbody : fd.body = .stmts body) (hbind : ∀ (s : Shared) (vals : List Value), Kp base s.heap → vals.length = ds.length → BindsTo s fd ⟨vals, []⟩ (ps.zip (vals ++ dv)))
    (hps : ∀ x ∈ ps, bindable fd.scope.names x = true) (hnd : ps.Nodup) (hlen : (ds ++ dd).length = ps.length)
    (hex : ∀ base' L, Kp base base' → ExT prog w base' T k (callEnvC fd L a) (bindable fd.scope.names) (ps.zip (ds ++ dd)) [] body (fun _ _ => False) (fun d' => d' = d)) :
    OpLT T prog w base (k + 1) (fun vs => call (.ref a) vs) ds d := Seal.mk fun A X s Q E vs g o r tk q => by
  obtain ⟨ob, e, hd⟩ := hf.ob
  have r' := r.append (hdv X s.heap)
  have vl : (vs ++ dv).length = ps.length := by rw [r'.length, hlen]
  have kindC : ∀ x, fd.scope.names.lookup x = some .cell → ∃ c, (cellsFrom (s.heap.objs.size + 1) fd.scope.names []).lookup x = some c := fun x hx => by
    obtain ⟨c, hc⟩ := cellsFrom_has fd.scope.names (s.heap.objs.size + 1) (mem_of_lookup hx)
    exact lookup_of_mem hc
  have bk : ∀ x, bindable fd.scope.names x = true → fd.scope.names.lookup x = some .local ∨ (fd.scope.names.lookup x = some .cell ∧ ∃ c, (cellsFrom (s.heap.objs.size + 1) fd.scope.names []).lookup x = some c) := fun x hx => by
    simp only [bindable, Bool.or_eq_true, beq_iff_eq] at hx
    exact hx.imp id fun h => ⟨h, kindC x h⟩
  refine wpAny_call (call_cells_mt g.room (o.1 a ob e) hd (let ⟨m, n, z⟩ := hf.lim; ⟨m, n.keeps o.1, z⟩) (hf.code.keeps o.1) hbody (hbind s vs o.1 r.length) hf.clo (fun x hx => ?_) (fun s₁ le IC => ?_) hf.co hf.gen hf.kind)
  · have hm : x.1 ∈ ps := by
      have : x.1 ∈ (ps.zip (vs ++ dv)).map (·.1) := List.mem_map.mpr ⟨x, hx, rfl⟩
      rwa [zip_fst vl] at this
    exact (bk x.1 (hps _ hm)).imp id fun ⟨h, c, l⟩ => ⟨h, by rw [l]; rfl⟩
  · generalize hE : callEnvC fd s.heap.objs.size a = env at IC ⊢
    have eL : env.locals = s.heap.objs.size := by rw [← hE]; rfl
    have eC : env.cells = cellsFrom (s.heap.objs.size + 1) fd.scope.names [] := by rw [← hE]; rfl
    have eK : ∀ x, env.kindOf x = fd.scope.names.lookup x := fun x => by rw [← hE]; rfl
    let Y : Addr → Prop := fun b => b = env.locals ∨ ∃ x, env.cells.lookup x = some b
    have yfresh : ∀ b, Y b → s.heap.get? b = none := fun b y => by
      rcases y with y | ⟨x, y⟩
      · rw [y, eL]; exact get_size _
      · have := IC.above x b (mem_of_lookup y)
        rw [eL] at this
        exact size_keep (Kp.refl _) (Nat.le_of_lt this)
    obtain ⟨h1, t1, e1, kp1⟩ := IC.done
    have zn : ((ps.zip (vs ++ dv)).map (·.1)).Nodup := by rw [zip_fst vl]; exact hnd
    have F : Frm w s.heap env (bindable fd.scope.names) (ps.zip (ds ++ dd)) [] (fun b => X b ∨ Y b) Y s₁ := by
      refine ⟨⟨fun b o h => by rw [e1]; exact kp1 b o h, by rw [← hE]; exact hf.kind, by rw [← hE]; exact hf.glob, by rw [← hE]; exact hf.blt, fun b q => ?_, fun x hx => ?_, fun b h => ⟨let ⟨o', e⟩ := (o.2.2 b h).1; ⟨o', o.1 b o' e⟩, fun q => q.elim (o.2.2 b h).2 fun y => by obtain ⟨o', e⟩ := (o.2.2 b h).1; have := o.1 b o' e; rw [yfresh b y] at this; cases this⟩, fun x d' l => ?_⟩, ⟨fun b y => ⟨.inr y, yfresh b y⟩, .inl rfl, ⟨_, IC.toInCall.ns⟩, fun x c hx lx yc => ?_, fun x c hx lx => .inl (.inr ⟨x, lx⟩), fun x hx => ?_⟩, ?_⟩
      · rcases q with q | q | ⟨x, q⟩
        · obtain ⟨o', e'⟩ := o.2.1 b q; exact ⟨o', by rw [e1]; exact kp1 b o' e'⟩
        · obtain ⟨o', _, _, e', _⟩ := IC.toInCall.ns; rw [q]; exact ⟨o', e'⟩
        · obtain ⟨o', e', _⟩ := IC.cell x b q; exact ⟨o', e'⟩
      · rw [eK] at hx
        obtain ⟨c, l⟩ := kindC x hx
        rw [← eC] at l
        obtain ⟨o', e', _⟩ := IC.cell x c l
        exact ⟨c, l, o', e'⟩
      · obtain ⟨v, hm, hr⟩ := zip_rep r' l
        refine ⟨v, ?_, hr.mono ⟨fun b o _ h => by rw [e1]; exact kp1 b o h, fun b o h q => q.elim id fun y => by rw [yfresh b y] at h; cases h⟩⟩
        have hp : x ∈ ps := by
          have : x ∈ (ps.zip (vs ++ dv)).map (·.1) := List.mem_map.mpr ⟨(x, v), hm, rfl⟩
          rwa [zip_fst vl] at this
        rcases bk x (hps x hp) with kl | ⟨kc, c, lc⟩
        · have kl' : env.kindOf x = some .local := by rw [eK]; exact kl
          exact .inl ⟨kl', _, IC.toInCall.ns, bindL_get kl' zn hm⟩
        · have kc' : env.kindOf x = some .cell := by rw [eK]; exact kc
          rw [← eC] at lc
          refine .inr ⟨kc', c, lc, ?_⟩
          have := IC.cell x c lc
          rwa [bindC_get (by rw [kc']; simp) zn hm] at this
      · exact ⟨⟨_, IC.cell x c lx⟩, fun y ly => name_of_addr IC.apart (mem_of_lookup ly) (mem_of_lookup lx)⟩
      · rcases bk x hx with kl | ⟨kc, c, lc⟩
        · exact .inl (by rw [eK]; exact kl)
        · rw [← eC] at lc
          exact .inr ⟨by rw [eK]; exact kc, c, lc, .inr ⟨x, lc⟩⟩
      · exact ⟨fun _ => 0, ⟨fun _ _ l => by simp at l, fun _ _ n => (n rfl).elim⟩⟩
    have ex := hex s.heap s.heap.objs.size o.1
    rw [hE] at ex
    refine ex.out (A.deeper env) _ Y s₁ _ _ (g.deeper env) F (fun z => Nat.lt_of_lt_of_le (tk z) le) (fun V' O' X' Y' s' n _ _ => n.elim) fun d' v X' Y' s' rd rv t kp => ?_
    subst rd
    refine q v s' (rv.mono ⟨fun _ _ _ h => h, fun b o' h xb => t.keepX b (.inl xb) fun y => ?_⟩) ?_
    · obtain ⟨o2, e2⟩ := o.2.1 b xb
      rw [yfresh b y] at e2; cases e2
    · obtain ⟨h2, t2, e2⟩ := t.same
      exact ⟨h2, t2, by rw [e2, e1], fun b o' h => by have := kp b o' h; rw [e2] at this; exact this⟩
theorem OpLT.def {T : Prop} {a : Addr} {fd : FuncData} {body : List Stmt} {ps : List Str} {ds : List D} {d : D} (hf : DefIs base a fd) (hbody : fd.body = .stmts body) (hbind : ∀ vals : List Value, vals.length = ps.length → bindArgs fd ⟨vals, []⟩ = pure (ps.zip vals))
    (hps : ∀ x ∈ ps, bindable fd.scope.names x = true) (hnd : ps.Nodup) (hlen : ds.length = ps.length)
    (hex : ∀ base' L, Kp base base' → ExT prog w base' T k (callEnvC fd L a) (bindable fd.scope.names) (ps.zip ds) [] body (fun _ _ => False) (fun d' => d' = d)) :
    OpLT T prog w base (k + 1) (fun vs => call (.ref a) vs) ds d :=
  OpLT.defD (dv := []) (dd := []) (fun _ _ => .nil) hf hbody (fun s vals _ hl => by rw [List.append_nil]; exact .of_eq (hbind vals (by rw [hl, hlen]))) hps hnd (by rw [List.append_nil]; exact hlen) (by rw [List.append_nil]; exact hex)
theorem OpL.def {a : Addr} {fd : FuncData} {body : List Stmt} {ps : List Str} {ds : List D} {d : D} (hf : DefIs base a fd) (hbody : fd.body = .stmts body) (hbind : ∀ vals : List Value, vals.length = ps.length → bindArgs fd ⟨vals, []⟩ = pure (ps.zip vals))
    (hps : ∀ x ∈ ps, bindable fd.scope.names x = true) (hnd : ps.Nodup) (hlen : ds.length = ps.length)
    (hex : ∀ base' L, Kp base base' → Ex prog w base' k (callEnvC fd L a) (bindable fd.scope.names) (ps.zip ds) [] body (fun _ _ => False) (fun d' => d' = d)) :
    OpL prog w base (k + 1) (fun vs => call (.ref a) vs) ds d :=
  (OpLT.def (T := False) hf hbody hbind hps hnd hlen fun base' L hb => (hex base' L hb).toT).all
end
end Mine
end
section
open PySem PySem.W PyProof.Rows
namespace Mine
mutual
inductive Alike : Nat → D → D → Bool → Prop
  | none {n : Nat} : Alike n .none .none true
  | int {n : Nat} (a b : Int) : Alike n (.int a) (.int b) (a == b)
  | str {n : Nat} (a b : Str) : Alike n (.str a) (.str b) (decide (a = b))
  | list {n : Nat} {as bs : List D} {r : Bool} : AlikeAll n as bs r → Alike (n + 1) (.list as) (.list bs) r
  | listLen {n : Nat} {as bs : List D} : as.length ≠ bs.length → Alike (n + 1) (.list as) (.list bs) false
  | tup {n : Nat} {as bs : List D} {r : Bool} : AlikeAll n as bs r → Alike (n + 1) (.tup as) (.tup bs) r
inductive AlikeAll : Nat → List D → List D → Bool → Prop
  | nil {n : Nat} : AlikeAll n [] [] true
  | cons {n : Nat} {a b : D} {as bs : List D} {r r' : Bool} : Alike n a b r → AlikeAll n as bs r' → AlikeAll n (a :: as) (b :: bs) (r && r')
end
open PySem.SeqAt
noncomputable def EqAll (A : Around) (s : Shared) : List Value → List Value → Bool → Prop
  | [], [], r => r = true
  | v :: vs, u :: us, r => ∃ a b, EqAt A s v u a ∧ EqAll A s vs us b ∧ r = (a && b)
  | _, _, _ => False
theorem EqAll.fn {A : Around} {s : Shared} : ∀ {vs us : List Value} {r : Bool}, EqAll A s vs us r → vs.length = us.length ∧ ∃ e : Nat → Bool, (∀ j (h1 : j < vs.length) (h2 : j < us.length), EqAt A s vs[j] us[j] (e j)) ∧ (List.range vs.length).all e = r
  | [], [], r, h => ⟨rfl, fun _ => true, fun j h => absurd h (Nat.not_lt_zero _), by rw [h]; rfl⟩
  | v :: vs, u :: us, r, ⟨a, b, h1, h2, hr⟩ => by
    obtain ⟨hl, e, he, hall⟩ := EqAll.fn h2
    refine ⟨by simp [hl], fun j => match j with | 0 => a | i + 1 => e i, fun j j1 j2 => ?_, ?_⟩
    · cases j with
      | zero => exact h1
      | succ i => exact he i (by simpa using j1) (by simpa using j2)
    · rw [hr, ← hall, List.length_cons, List.range_succ_eq_map]
      simp [List.all_map, Function.comp_def]
  | [], _ :: _, _, h => h.elim
  | _ :: _, [], _, h => h.elim
theorem listObj_inj {vs us : List Value} {m m' : Nat} (h : listObj vs m = listObj us m') : vs = us := by
  unfold listObj at h
  injection h with _ _ h _
  injection h with h _
  exact Array.toList_inj.mpr h |> fun q => by simpa using q
theorem tupObj_inj {vs us : List Value} {m m' : Nat} (h : tupObj vs m = tupObj us m') : vs = us := by
  unfold tupObj at h
  injection h with _ _ h _
  injection h with h _
  exact Array.toList_inj.mpr h |> fun q => by simpa using q
theorem Rep.same {w : World} {X : Addr → Prop} {h : Heap} {n : Nat} {a b : D} {r : Bool} (x : Alike n a b r) : ∀ {v : Value}, Rep w X h v a → Rep w X h v b → r = true :=
  Alike.rec (motive_1 := fun _ a b r _ => ∀ {v : Value}, Rep w X h v a → Rep w X h v b → r = true) (motive_2 := fun _ as bs r _ => ∀ {vs : List Value}, RepAll w X h vs as → RepAll w X h vs bs → r = true)
    (fun _ _ => rfl)
    (fun a b v h1 h2 => by
      obtain ⟨t, rfl⟩ := h1.inv
      obtain ⟨t', e⟩ := h2.inv
      injection e with e
      simp [e])
    (fun a b v h1 h2 => by
      obtain ⟨t, rfl⟩ := h1.inv
      obtain ⟨t', e⟩ := h2.inv
      injection e with e
      simp [e])
    (fun {_ _ _ _} _ ih v h1 h2 => by
      obtain ⟨a, vs, n, rfl, _, e1, r1⟩ := h1.inv
      obtain ⟨a', us, n', ea, _, e2, r2⟩ := h2.inv
      injection ea with ea
      subst ea
      rw [e1] at e2; injection e2 with e2
      have := listObj_inj e2
      subst this
      exact ih r1 r2)
    (fun {_ _ _} ne v h1 h2 => by
      obtain ⟨a, vs, n, rfl, _, e1, r1⟩ := h1.inv
      obtain ⟨a', us, n', ea, _, e2, r2⟩ := h2.inv
      injection ea with ea
      subst ea
      rw [e1] at e2; injection e2 with e2
      have := listObj_inj e2
      subst this
      exact absurd (r1.length.symm.trans r2.length) ne)
    (fun {_ _ _ _} _ ih v h1 h2 => by
      obtain ⟨a, vs, n, rfl, _, e1, r1⟩ := h1.inv
      obtain ⟨a', us, n', ea, _, e2, r2⟩ := h2.inv
      injection ea with ea
      subst ea
      rw [e1] at e2; injection e2 with e2
      have := tupObj_inj e2
      subst this
      exact ih r1 r2)
    (fun _ _ => rfl)
    (fun {_ _ _ _ _ _ _} _ _ ih1 ih2 vs h1 h2 => by
      obtain ⟨v, us, rfl, a, r1⟩ := h1.inv
      obtain ⟨v', us', e, b, r2⟩ := h2.inv
      injection e with e1 e2
      subst e1 e2
      rw [ih1 a b, ih2 r1 r2]; rfl) x
theorem EqAll.lists {A : Around} {s : Shared} {l b : Addr} {vs us : List Value} {m m' : Nat} {r : Bool} (e1 : s.heap.get? l = some (listObj vs m)) (e2 : s.heap.get? b = some (listObj us m')) (q : EqAll A.in1 s vs us r) (hu : A.units < cLine) : RcAt A s (.ref l) (.ref b) r := by
  obtain ⟨hl, e, he, hall⟩ := q.fn
  have := RcAt.lists (A := A) (s := s) (l := l) (b := b) (items := vs.toArray) (items2 := us.toArray) (e := e) ⟨_, e1, rfl, m, rfl⟩ ⟨_, e2, rfl, m', rfl⟩ (by simp [hl]) hu fun j h1 h2 => by simpa using he j (by simpa using h1) (by simpa using h2)
  rwa [List.size_toArray, hall] at this
theorem EqAll.tups {A : Around} {s : Shared} {l b : Addr} {vs us : List Value} {m m' : Nat} {r : Bool} (e1 : s.heap.get? l = some (tupObj vs m)) (e2 : s.heap.get? b = some (tupObj us m')) (q : EqAll A.in1 s vs us r) (hu : A.units < cLine) : RcAt A s (.ref l) (.ref b) r := by
  obtain ⟨hl, e, he, hall⟩ := q.fn
  have := RcAt.tuples (A := A) (s := s) (l := l) (b := b) (items := vs.toArray) (items2 := us.toArray) (e := e) ⟨_, e1, rfl, m, rfl⟩ ⟨_, e2, rfl, m', rfl⟩ hu fun j h1 h2 => by simpa using he j (by simpa using h1) (by simpa using h2)
  have hm : min vs.length us.length = vs.length := by rw [hl, Nat.min_self]
  have hb2 : (vs.length == us.length) = true := by simp [hl]
  rwa [List.size_toArray, List.size_toArray, hm, hall, hb2, Bool.and_true] at this
theorem Rep.eqAt {w : World} {X : Addr → Prop} {s : Shared} {n : Nat} {a b : D} {r : Bool} (x : Alike n a b r) : ∀ {v u : Value} {A : Around}, Rep w X s.heap v a → Rep w X s.heap u b → A.units + n < cLine → EqAt A s v u r :=
  Alike.rec (motive_1 := fun n a b r _ => ∀ {v u : Value} {A : Around}, Rep w X s.heap v a → Rep w X s.heap u b → A.units + n < cLine → EqAt A s v u r)
    (motive_2 := fun n as bs r _ => ∀ {vs us : List Value} {A : Around}, RepAll w X s.heap vs as → RepAll w X s.heap us bs → A.units + n < cLine → EqAll A s vs us r)
    (fun h1 h2 _ => by
      obtain rfl := h1.inv
      obtain rfl := h2.inv
      exact EqAt.same _)
    (fun a b v u A h1 h2 _ => by
      obtain ⟨t, rfl⟩ := h1.inv
      obtain ⟨t', rfl⟩ := h2.inv
      exact (MeetsSeq.EqGives.int a b t t').at A s)
    (fun a b v u A h1 h2 _ => by
      obtain ⟨t, rfl⟩ := h1.inv
      obtain ⟨t', rfl⟩ := h2.inv
      have := MeetsSeq.EqGives.at (PySem.SeqRoads2.EqGives.str a b t t') A s
      rwa [str_beq] at this)
    (fun {n _ _ r} h ih v u A h1 h2 hu => by
      obtain ⟨l, vs, m, rfl, x1, e1, r1⟩ := h1.inv
      obtain ⟨b, us, m', rfl, x2, e2, r2⟩ := h2.inv
      by_cases hlb : l = b
      · subst hlb
        rw [Rep.same (.list h) (Rep.list x1 e1 r1) (Rep.list x2 e2 r2)]
        exact EqAt.same _
      · exact EqAt.of_refs hlb (EqAll.lists e1 e2 (ih (A := A.in1) r1 r2 (by show A.units + 1 + n < _; omega)) (by omega)))
    (fun {n _ _} ne v u A h1 h2 hu => by
      obtain ⟨l, vs, m, rfl, _, e1, r1⟩ := h1.inv
      obtain ⟨b, us, m', rfl, _, e2, r2⟩ := h2.inv
      have hne : vs.length ≠ us.length := by rw [r1.length, r2.length]; exact ne
      have hlb : l ≠ b := fun z => by subst z; rw [e1] at e2; injection e2 with e2; exact hne (by rw [listObj_inj e2])
      exact EqAt.of_refs hlb (RcAt.lists_lengths (items := vs.toArray) (items2 := us.toArray) ⟨_, e1, rfl, m, rfl⟩ ⟨_, e2, rfl, m', rfl⟩ (by simpa using hne) (by omega)))
    (fun {n _ _ r} h ih v u A h1 h2 hu => by
      obtain ⟨l, vs, m, rfl, x1, e1, r1⟩ := h1.inv
      obtain ⟨b, us, m', rfl, x2, e2, r2⟩ := h2.inv
      by_cases hlb : l = b
      · subst hlb
        rw [Rep.same (.tup h) (Rep.tup x1 e1 r1) (Rep.tup x2 e2 r2)]
        exact EqAt.same _
      · exact EqAt.of_refs hlb (EqAll.tups e1 e2 (ih (A := A.in1) r1 r2 (by show A.units + 1 + n < _; omega)) (by omega)))
    (fun h1 h2 _ => by
      obtain rfl := h1.inv
      obtain rfl := h2.inv
      exact rfl)
    (fun {_ _ _ _ _ _ _} _ _ ih1 ih2 vs us A h1 h2 hu => by
      obtain ⟨v, vs, rfl, a, r1⟩ := h1.inv
      obtain ⟨u, us, rfl, b, r2⟩ := h2.inv
      exact ⟨_, _, ih1 a b hu, ih2 r1 r2 hu, rfl⟩) x
theorem RepAll.eqAt {w : World} {X : Addr → Prop} {s : Shared} {n : Nat} : ∀ {as bs : List D} {r : Bool} {vs us : List Value} {A : Around}, AlikeAll n as bs r → RepAll w X s.heap vs as → RepAll w X s.heap us bs → A.units + n < cLine → EqAll A s vs us r
  | [], [], _, _, _, _, al, h1, h2, _ => by
    cases al
    obtain rfl := h1.inv
    obtain rfl := h2.inv
    exact rfl
  | [], _ :: _, _, _, _, _, al, _, _, _ => by cases al
  | _ :: _, [], _, _, _, _, al, _, _, _ => by cases al
  | _ :: _, _ :: _, _, _, _, _, al, h1, h2, hu => by
    obtain ⟨v, vs, rfl, a, r1⟩ := h1.inv
    obtain ⟨u, us, rfl, b, r2⟩ := h2.inv
    cases al with
    | cons h t => exact ⟨_, _, Rep.eqAt h a b hu, RepAll.eqAt t r1 r2 hu, rfl⟩

noncomputable def flipIf (ne : Bool) (r : Bool) : Bool := if ne then !r else r
theorem Alike.refl_all {n : Nat} : ∀ {as : List D}, (∀ a ∈ as, Alike n a a true) → AlikeAll n as as true
  | [], _ => .nil
  | a :: as, h => .cons (r := true) (r' := true) (h a List.mem_cons_self) (Alike.refl_all fun b hb => h b (List.mem_cons_of_mem _ hb))
section
variable {prog : Program} {w : World} {base : Heap} {k : Nat}
theorem GA.units {k n : Nat} {A : Around} (g : GA k A) (h : n ≤ 100) : A.units + n < cLine := by have := g.2.2; show A.units + n < 9900; omega
theorem cmp_eqL {n : Nat} {as bs : List D} {r : Bool} (h : Alike (n + 1) (.list as) (.list bs) r) (hn : n < 100) : Op2 prog w base k (compareOp .Eq) (.list as) (.list bs) (.bool r) := Seal.mk fun A X s Q E v u g _ r1 r2 q => by
  have key : RcAt A s v u r := by
    have hu := g.units (n := n + 1) hn
    obtain ⟨l, vs, m, rfl, _, e1, r1⟩ := r1.inv
    obtain ⟨b, us, m', rfl, _, e2, r2⟩ := r2.inv
    cases h with
    | list h => exact EqAll.lists e1 e2 (RepAll.eqAt (A := A.in1) h r1 r2 (by show A.units + 1 + n < _; omega)) (by omega)
    | listLen h => exact RcAt.lists_lengths (items := vs.toArray) (items2 := us.toArray) ⟨_, e1, rfl, m, rfl⟩ ⟨_, e2, rfl, m', rfl⟩ (by simpa using (by rw [r1.length, r2.length]; exact h : vs.length ≠ us.length)) (by omega)
  exact key prog w E _ (q _ _ (.bool _) (.same s))
theorem cmp_neL {n : Nat} {as bs : List D} {r : Bool} (h : Alike (n + 1) (.list as) (.list bs) r) (hn : n < 100) : Op2 prog w base k (compareOp .NotEq) (.list as) (.list bs) (.bool (!r)) := Seal.mk fun A X s Q E v u g _ r1 r2 q => by
  have key : RcNeAt A s v u (!r) := by
    have hu := g.units (n := n + 1) hn
    obtain ⟨l, vs, m, rfl, _, e1, r1⟩ := r1.inv
    obtain ⟨b, us, m', rfl, _, e2, r2⟩ := r2.inv
    cases h with
    | list h =>
      obtain ⟨hl, e, he, hall⟩ := (RepAll.eqAt (A := A.in1) h r1 r2 (by show A.units + 1 + n < _; omega)).fn
      have := RcNeAt.lists (A := A) (s := s) (l := l) (b := b) (items := vs.toArray) (items2 := us.toArray) (e := e) ⟨_, e1, rfl, m, rfl⟩ ⟨_, e2, rfl, m', rfl⟩ (by simp [hl]) (by omega) fun j h1 h2 => by simpa using he j (by simpa using h1) (by simpa using h2)
      rwa [List.size_toArray, hall] at this
    | listLen h => exact RcNeAt.lists_lengths (items := vs.toArray) (items2 := us.toArray) ⟨_, e1, rfl, m, rfl⟩ ⟨_, e2, rfl, m', rfl⟩ (by simpa using (by rw [r1.length, r2.length]; exact h : vs.length ≠ us.length)) (by omega)
  exact key prog w E _ (q _ _ (.bool _) (.same s))
theorem cmp_neT {n : Nat} {as bs : List D} {r : Bool} (h : AlikeAll n as bs r) (hn : n < 100) : Op2 prog w base k (compareOp .NotEq) (.tup as) (.tup bs) (.bool (!r)) := Seal.mk fun A X s Q E v u g _ r1 r2 q => by
  have key : RcNeAt A s v u (!r) := by
    have hu := g.units (n := n + 1) hn
    obtain ⟨l, vs, m, rfl, _, e1, r1⟩ := r1.inv
    obtain ⟨b, us, m', rfl, _, e2, r2⟩ := r2.inv
    obtain ⟨hl, e, he, hall⟩ := (RepAll.eqAt (A := A.in1) h r1 r2 (by show A.units + 1 + n < _; omega)).fn
    have := RcNeAt.tuples (A := A) (s := s) (l := l) (b := b) (items := vs.toArray) (items2 := us.toArray) (e := e) ⟨_, e1, rfl, m, rfl⟩ ⟨_, e2, rfl, m', rfl⟩ (by omega) fun j h1 h2 => by simpa using he j (by simpa using h1) (by simpa using h2)
    have hm : min vs.length us.length = vs.length := by rw [hl, Nat.min_self]
    have hb2 : (vs.length == us.length) = true := by simp [hl]
    rwa [List.size_toArray, List.size_toArray, hm, hall, hb2, Bool.and_true] at this
  exact key prog w E _ (q _ _ (.bool _) (.same s))
theorem cmp_nebool {a b : Bool} : Op2 prog w base k (compareOp .NotEq) (.bool a) (.bool b) (.bool (a != b)) := Seal.mk fun A X s Q E v u _ _ r1 r2 q => by
  obtain rfl := r1.inv
  obtain rfl := r2.inv
  exact (RcNeAt.bool_bool a b) prog w E _ (by have := q (.bool (a != b)) s (.bool _) (.same s); simpa [bne] using this)
/-! in and not in -/
noncomputable def hitI (x : Int) : Value → Bool
  | .int i _ => i == x
  | _ => false
noncomputable def hitS (x : Str) : Value → Bool
  | .str y _ => decide (y = x)
  | _ => false
theorem any_int {X : Addr → Prop} {h : Heap} {x : Int} : ∀ {vs : List Value} {ns : List Int}, RepAll w X h vs (ns.map .int) → vs.any (hitI x) = decide (x ∈ ns) ∧ ∀ y ∈ vs, ∃ i t, y = .int i t
  | _, [], .nil => ⟨by simp, by simp⟩
  | _, i :: ns, .cons hd r => by
    obtain ⟨t, rfl⟩ := hd.inv
    obtain ⟨a, b⟩ := any_int (x := x) r
    refine ⟨?_, fun y hy => ?_⟩
    · rw [List.any_cons, a]
      simp only [hitI, List.mem_cons]
      by_cases e : i = x
      · subst e; simp
      · have e' : x ≠ i := fun z => e z.symm
        simp [e, e']
    · rcases List.mem_cons.mp hy with q | q
      · exact ⟨i, t, q⟩
      · exact b y q
theorem any_str {X : Addr → Prop} {h : Heap} {x : Str} : ∀ {vs : List Value} {ns : List Str}, RepAll w X h vs (ns.map .str) → vs.any (hitS x) = decide (x ∈ ns) ∧ ∀ y ∈ vs, ∃ i t, y = .str i t
  | _, [], .nil => ⟨by simp, by simp⟩
  | _, i :: ns, .cons hd r => by
    obtain ⟨t, rfl⟩ := hd.inv
    obtain ⟨a, b⟩ := any_str (x := x) r
    refine ⟨?_, fun y hy => ?_⟩
    · rw [List.any_cons, a]
      simp only [hitS, List.mem_cons]
      by_cases e : i = x
      · subst e; simp
      · have e' : x ≠ i := fun z => e z.symm
        simp [e, e']
    · rcases List.mem_cons.mp hy with q | q
      · exact ⟨i, t, q⟩
      · exact b y q
theorem eqI {A : Around} {s : Shared} {x : Int} {u : Tok} {vs : List Value} (h : ∀ y ∈ vs, ∃ i t, y = .int i t) : ∀ y, y ∈ vs.toArray → EqAt A s y (.int x u) (hitI x y) := fun y hy => by
  obtain ⟨i, t, rfl⟩ := h y (by simpa using hy)
  exact (MeetsSeq.EqGives.int i x t u).at A s
theorem eqS {A : Around} {s : Shared} {x : Str} {u : Tok} {vs : List Value} (h : ∀ y ∈ vs, ∃ i t, y = .str i t) : ∀ y, y ∈ vs.toArray → EqAt A s y (.str x u) (hitS x y) := fun y hy => by
  obtain ⟨i, t, rfl⟩ := h y (by simpa using hy)
  have := MeetsSeq.EqGives.at (PySem.SeqRoads2.EqGives.str i x t u) A s
  rwa [str_beq] at this
theorem cmp_inI {x : Int} {ns : List Int} : Op2 prog w base k (compareOp .In) (.int x) (.list (ns.map .int)) (.bool (decide (x ∈ ns))) := Seal.mk fun A X s Q E v u g _ r1 r2 q => by
  obtain ⟨_, rfl⟩ := r1.inv
  obtain ⟨l, vs, m, rfl, _, e1, r1⟩ := r2.inv
  obtain ⟨a, b⟩ := any_int (x := x) r1
  refine in_listAt (hitI x) ⟨_, e1, rfl, m, rfl⟩ (eqI b) ?_
  rw [List.any_toArray, a]; exact q _ _ (.bool _) (.same s)
theorem cmp_notInI {x : Int} {ns : List Int} : Op2 prog w base k (compareOp .NotIn) (.int x) (.list (ns.map .int)) (.bool (!decide (x ∈ ns))) := Seal.mk fun A X s Q E v u g _ r1 r2 q => by
  obtain ⟨_, rfl⟩ := r1.inv
  obtain ⟨l, vs, m, rfl, _, e1, r1⟩ := r2.inv
  obtain ⟨a, b⟩ := any_int (x := x) r1
  refine notIn_listAt (hitI x) ⟨_, e1, rfl, m, rfl⟩ (eqI b) ?_
  rw [List.any_toArray, a]; exact q _ _ (.bool _) (.same s)
theorem cmp_notInS {x : Str} {ns : List Str} : Op2 prog w base k (compareOp .NotIn) (.str x) (.list (ns.map .str)) (.bool (!decide (x ∈ ns))) := Seal.mk fun A X s Q E v u g _ r1 r2 q => by
  obtain ⟨_, rfl⟩ := r1.inv
  obtain ⟨l, vs, m, rfl, _, e1, r1⟩ := r2.inv
  obtain ⟨a, b⟩ := any_str (x := x) r1
  refine notIn_listAt (hitS x) ⟨_, e1, rfl, m, rfl⟩ (eqS b) ?_
  rw [List.any_toArray, a]; exact q _ _ (.bool _) (.same s)
end
end Mine
end
section
open PySem PySem.W PyProof.Rows PySem.Builtin.Str
namespace Mine
noncomputable def D.type : D → String
  | .list _ => "list"
  | .str _ => "str"
  | .bytes _ => "bytes"
  | .dict _ => "dict"
  | .tup _ => "tuple"
  | .obj { cls := .type T, dict := Option.none, .. } _ => T
  | _ => ""
section
variable {prog : Program} {w : World} {base : Heap} {k : Nat} {env : Env} {V : List (Str × D)}
theorem Rep.typeIs {X : Addr → Prop} {s : Shared} {v : Value} {d : D} (r : Rep w X s.heap v d) (h : d.type ≠ "") : s.TypeIs v d.type ∧ ∀ a, v = .ref a → ∃ ob, s.heap.get? a = some ob ∧ ob.dict = Option.none := by
  cases d with
  | list ds => obtain ⟨a, vs, n, rfl, _, e, _⟩ := r.inv; exact ⟨⟨_, e, rfl⟩, fun a q => by injection q with q; exact q ▸ ⟨_, e, rfl⟩⟩
  | tup ds => obtain ⟨a, vs, n, rfl, _, e, _⟩ := r.inv; exact ⟨⟨_, e, rfl⟩, fun a q => by injection q with q; exact q ▸ ⟨_, e, rfl⟩⟩
  | str x => obtain ⟨t, rfl⟩ := r.inv; exact ⟨typeIs_str s x t, fun a q => Value.noConfusion q⟩
  | bytes x => obtain ⟨t, rfl⟩ := r.inv; exact ⟨PySem.W.typeIs_bytes _ _ _, fun a q => Value.noConfusion q⟩
  | dict kds => obtain ⟨a, o, kvs, rfl, _, _, e, ⟨es, ep, x, _⟩, _⟩ := r.inv; exact ⟨⟨_, e, x.1⟩, fun a q => by injection q with q; exact q ▸ ⟨_, e, x.2.1⟩⟩
  | obj o more =>
    obtain ⟨a, rfl, n, e, m⟩ := r.inv
    obtain ⟨c, d, dt, sl⟩ := o
    cases c with
    | type T => cases d with
      | none => exact ⟨⟨_, e, rfl⟩, fun a q => by injection q with q; exact q ▸ ⟨_, e, rfl⟩⟩
      | some _ => exact absurd rfl h
    | _ => exact absurd rfl h
  | _ => exact absurd rfl h
theorem Ev.meth {o e : Expr} {es : List Expr} {name : Str} {id : String} {apos pos : Pos} {a d : D} {ds : List D} (ho : Ev prog w base k env V o a) (ha : Evs prog w base k env V (e :: es) ds) (hT : a.type ≠ "") (pa : PlainAttrs a.type) (slot : Slot a.type name id) (hty : typeOf (.builtin id) = pure (.type "method_descriptor"))
    (hop : OpL prog w base k (fun vs => call (.builtin id) vs) (a :: ds) d)
    (hbase : attributeBase o name env (eval o env) = eval o env := by rfl)
    (hfew : ((backTo pos (starEach (e :: es) env)).all (fun x => !x.1) && (backToKw pos (keywordEach [] env)).all (fun x => x.1.isSome)
      && decide ((e :: es).length + ([] : List Keyword).length + (if ([] : List Keyword).isEmpty then 0 else 1) < 30)) = true := by rfl)
    (hline : (apos.endLine == pos.line) = true := by rfl) (he : starEach (e :: es) env = (false, eval e env) :: starEach es env := by rfl) (hplain : (backTo pos (starEach es env)).any (·.1) = false := by rfl) :
    Ev prog w base k env V (.Call (.Attribute o name apos) (e :: es) [] pos) d := Seal.mk fun A X s Q E g S q => by
  refine wpAny_Call_method hbase hfew hline pa slot hty (ho.out A X s _ E g S fun v s1 rv k1 => ?_)
  obtain ⟨t1, t2⟩ := rv.typeIs hT
  refine ⟨t1, t2, callWith_method1 (ha.out A X s1 _ E pos g (S.keeps k1) fun vs s2 rs k2 => ?_) he hplain⟩
  exact hop.out A X s2 Q E (v :: vs) g (S.keeps (k1.then k2)).ok (.cons (rv.kp k2.kp) rs) fun u s3 ru k3 => q u s3 ru ((k1.then k2).then k3)
/-! subscripts -/
theorem g_list {ds : List D} {i : Int} {d : D} (h0 : 0 ≤ i) (hf : i < 2 ^ 63) (h : ds[i.toNat]? = some d) : Op2 prog w base k getItem (.list ds) (.int i) d := Seal.mk fun A X s Q E v u _ _ r1 r2 q => by
  obtain ⟨_, rfl⟩ := r2.inv
  obtain ⟨a, vs, n, rfl, nx, e, rs⟩ := r1.inv
  obtain ⟨x, hx, rx⟩ := rs.get h
  exact wpAny_getItem_list ⟨_, e, rfl, n, rfl⟩ h0 hf (by simpa using hx) (q x s rx (.same s))
theorem g_listNeg {ds : List D} {i : Int} {d : D} (h0 : i < 0) (h1 : -(ds.length : Int) ≤ i) (hf : -(2 ^ 63) ≤ i) (h : ds[(i + ds.length).toNat]? = some d) : Op2 prog w base k getItem (.list ds) (.int i) d := Seal.mk fun A X s Q E v u _ _ r1 r2 q => by
  obtain ⟨_, rfl⟩ := r2.inv
  obtain ⟨a, vs, n, rfl, nx, e, rs⟩ := r1.inv
  obtain ⟨x, hx, rx⟩ := rs.get h
  have hl : vs.toArray.size = ds.length := by simp [rs.length]
  exact wpAny_getItem_list_neg ⟨_, e, rfl, n, rfl⟩ h0 (by rw [hl]; exact h1) hf (by rw [hl]; simpa using hx) (q x s rx (.same s))
/-! slices -/
noncomputable def Pt (prog : Program) (w : World) (base : Heap) (k : Nat) (env : Env) (V : List (Str × D)) (e : Option Expr) (lo : Option Int) : Prop :=
  Seal (∀ (A : Around) (X : Addr → Prop) (s : Shared) (Q : Value → Shared → Prop) (E : Value → Shared → Prop), GA k A → St w base env V X s → (∀ v s', IsPart v lo → Ks s s' → Q v s') → wpAny (model prog w) A (evalPart e env) Q E s)
theorem Pt.none : Pt prog w base k env V Option.none Option.none := Seal.mk fun _ _ s _ _ _ _ q => wpAny_pure (q _ s .none (.same s))
theorem Pt.some {e : Expr} {i : Int} (h : Ev prog w base k env V e (.int i)) : Pt prog w base k env V (Option.some e) (Option.some i) := Seal.mk fun A X s Q E g S q => h.out A X s Q E g S fun v s' r ks => by
  obtain ⟨_, rfl⟩ := r.inv; exact q _ s' (.int _ _) ks
noncomputable def sliceD (ds : List D) (lo hi : Option Int) : List D := (ds.drop (lo.elim 0 (clipAt ds.length))).take (hi.elim ds.length (clipAt ds.length) - lo.elim 0 (clipAt ds.length))
noncomputable def strCut (x : Str) (lo hi : Option Int) : Str := if (strSliceIndices lo hi 1 x.length).length = x.length then x else ⟨((strSliceIndices lo hi 1 x.length).filterMap (x.cps[·]?)).toArray⟩
theorem Ev.slice {value : Expr} {lo hi : Option Expr} {sp p : Pos} {a d : D} {l h : Option Int} (hv : Ev prog w base k env V value a) (hl : Pt prog w base k env V lo l) (hh : Pt prog w base k env V hi h) (ht : a.hasItems = true)
    (op : ∀ (A : Around) (X : Addr → Prop) (s : Shared) (Q : Value → Shared → Prop) (E : Value → Shared → Prop) (v : Value) (sl : Addr) (vl vu : Value), Ok base X s → Rep w X s.heap v a → IsPart vl l → IsPart vu h → s.heap.IsSliceOf sl vl vu .none →
      (∀ v' s', Rep w X s'.heap v' d → Ks s s' → Q v' s') → wpAny (model prog w) A (getItem v (.ref sl)) Q E s) (hs : ∀ o i, ∃ ops, subscripted (.Slice lo hi Option.none sp) false o i = operate ops (getItem o i) := by intro _ _; exact ⟨_, rfl⟩) :
    Ev prog w base k env V (.Subscript value (.Slice lo hi Option.none sp) p) d := Seal.mk fun A X s Q E g S q =>
  Subscript_ (hv.out A X s _ E g S fun v s1 rv k1 => wpAny_Slice (hl.out A X s1 _ E g (S.keeps k1) fun vl s2 p2 k2 => hh.out A X s2 _ E g (S.keeps (k1.then k2)) fun vu s3 p3 k3 => wpAny_pure (by
    have k4 : Ks s ({ s3 with heap := s3.heap.push { cls := .type "slice", data := .fields #[vl, vu, .none] } } : Shared) := (k1.then k2).then (k3.then (.push0 s3 _))
    have rv4 := rv.kp ((k2.then k3).then (.push0 s3 { cls := .type "slice", data := .fields #[vl, vu, .none] })).kp
    obtain ⟨T, id, hT, hlk⟩ := rv4.getter ht
    obtain ⟨ops, hops⟩ := hs v (.ref s3.heap.objs.size)
    exact tail_any hT hlk (op A X _ Q E v _ vl vu (S.keeps k4).ok rv4 p2 p3 (Heap.IsSliceOf.new ..) fun x t rx kx => q x t rx (k4.then kx)) hops)))
theorem Ev.sliceL {value : Expr} {lo hi : Option Expr} {sp p : Pos} {ds : List D} {l h : Option Int} (hv : Ev prog w base k env V value (.list ds)) (hl : Pt prog w base k env V lo l) (hh : Pt prog w base k env V hi h) (hsz : ds.length ≤ sizeLine)
    (hs : ∀ o i, ∃ ops, subscripted (.Slice lo hi Option.none sp) false o i = operate ops (getItem o i) := by intro _ _; exact ⟨_, rfl⟩) :
    Ev prog w base k env V (.Subscript value (.Slice lo hi Option.none sp) p) (.list (sliceD ds l h)) := Ev.slice hv hl hh rfl (fun A X s Q E v sl vl vu o rv p1 p2 is q => by
  obtain ⟨a, vs, n, rfl, nx, e, rs⟩ := rv.inv
  have sz : vs.toArray.size = ds.length := by simp [rs.length]
  refine wpAny_getItem_list_slice ⟨_, e, rfl, n, rfl⟩ is p1 p2 .none (by simp) ?_ (by rw [sz]; exact hsz)
  rw [slicePick_plain, sz]
  exact q _ _ (rep_newList o ((rs.drop _).take _)) (.push0 s _)) hs
theorem Ev.sliceS {value : Expr} {lo hi : Option Expr} {sp p : Pos} {x : Str} {l h : Option Int} (hv : Ev prog w base k env V value (.str x)) (hl : Pt prog w base k env V lo l) (hh : Pt prog w base k env V hi h) (hsz : x.length ≤ sizeLine)
    (hs : ∀ o i, ∃ ops, subscripted (.Slice lo hi Option.none sp) false o i = operate ops (getItem o i) := by intro _ _; exact ⟨_, rfl⟩) :
    Ev prog w base k env V (.Subscript value (.Slice lo hi Option.none sp) p) (.str (strCut x l h)) := Ev.slice hv hl hh rfl (fun A X s Q E v sl vl vu o rv p1 p2 is q => by
  obtain ⟨t, rfl⟩ := rv.inv
  obtain ⟨l', e1, e1'⟩ : ∃ l' : Option (Int × Tok), vl = partValue l' ∧ l'.map (·.1) = l := by
    cases p1 with
    | none => exact ⟨Option.none, rfl, rfl⟩
    | int i t => exact ⟨Option.some (i, t), rfl, rfl⟩
  obtain ⟨h', e2, e2'⟩ : ∃ l' : Option (Int × Tok), vu = partValue l' ∧ l'.map (·.1) = h := by
    cases p2 with
    | none => exact ⟨Option.none, rfl, rfl⟩
    | int i t => exact ⟨Option.some (i, t), rfl, rfl⟩
  subst e1 e2
  refine wpAny_getItem_str_slice (l := l') (u := h') (st := Option.none) (let ⟨o, a, b, c⟩ := is; ⟨o, a, b, c⟩) rfl ?_
  unfold sliceMade slicePicked
  rw [e1', e2']
  simp only [Option.map_none, Option.getD_none, beq_self_eq_true, Bool.true_and, beq_iff_eq]
  unfold strCut at q
  split
  · rename_i hc
    rw [if_pos hc] at q
    exact q _ _ (.str _ _) (.same s)
  · rename_i hc
    rw [if_neg hc] at q
    refine ⟨?_, q _ _ (.str _ _) (.tok s _)⟩
    refine Nat.le_trans ?_ hsz
    refine Nat.le_trans ?_ (PySem.sliceIndices_le l h x.length)
    show (List.toArray _).size ≤ _
    rw [List.size_toArray]
    exact List.length_filterMap_le _ _) hs
end
end Mine
end
section
open PySem PySem.W PyProof.Rows PySem.Builtin.Str
namespace Mine
section
variable {prog : Program} {w : World} {base : Heap} {k : Nat} {env : Env} {V : List (Str × D)}
theorem Ks.of {s : Shared} {h' : Heap} {tk : Nat} (h : ∀ b o, s.heap.get? b = some o → h'.get? b = some o) : Ks s { s with heap := h', toks := tk } := ⟨h', tk, rfl, h⟩
theorem op_addL {as bs : List D} (hsz : as.length + bs.length ≤ sizeLine) : Op2 prog w base k (binaryOp .Add) (.list as) (.list bs) (.list (as ++ bs)) := Seal.mk fun A X s Q E v u _ o r1 r2 q => by
  obtain ⟨a, vs, n, rfl, nx, e, rs⟩ := r1.inv
  obtain ⟨b, us, m, rfl, nx', e', rs'⟩ := r2.inv
  refine P.add_list (items := vs.toArray) (items2 := us.toArray) e e' ?_ (by rw [List.size_toArray, List.size_toArray, rs.length, rs'.length]; exact hsz)
  have : vs.toArray ++ us.toArray = (vs ++ us).toArray := by simp
  rw [this]
  exact q _ _ (rep_newList o (rs.append rs')) (.push0 s _)
theorem c_len {ds : List D} (hsz : ds.length ≤ sizeLine) : OpL prog w base k (fun vs => call (.builtin "len") vs) [.list ds] (.int ds.length) := Seal.mk fun A X s Q E vs _ _ r q => by
  obtain ⟨_, rfl, a0⟩ := r.inv1
  obtain ⟨a, vs, n, rfl, nx, e, rs⟩ := a0.inv
  have hl : vs.toArray.size = ds.length := by simp [rs.length]
  have hz : sizeLine < 2 ^ 62 := by decide
  refine Calls.call_len_list ⟨_, e, rfl, n, rfl⟩ (by rw [hl]; omega) ?_
  rw [hl]
  exact q _ _ (.int _ _) (.tok s _)
theorem c_isL {ds : List D} : OpL prog w base k (fun vs => call (.builtin "isinstance") vs) [.list ds, .typ "list"] (.bool true) := Seal.mk fun A X s Q E vs _ _ r q => by
  obtain ⟨_, _, rfl, a, b⟩ := r.inv2
  obtain rfl := b.inv
  obtain ⟨_, _, _, rfl, nx, e, rs⟩ := a.inv
  exact IsiPair.list_list e rfl (q _ _ (.bool _) (.same s))
theorem c_isT {ds : List D} : OpL prog w base k (fun vs => call (.builtin "isinstance") vs) [.tup ds, .typ "list"] (.bool false) := Seal.mk fun A X s Q E vs _ _ r q => by
  obtain ⟨_, _, rfl, a, b⟩ := r.inv2
  obtain rfl := b.inv
  obtain ⟨_, _, _, rfl, nx, e, rs⟩ := a.inv
  exact IsiPair.tuple_list e rfl (q _ _ (.bool _) (.tok s _))
theorem c_str {i : Int} (h : i.natAbs.log2 < 1920) : OpL prog w base k (fun vs => call (.type "str") vs) [.int i] (.str (Str.ofString (toString i))) := Seal.mk fun A X s Q E vs _ _ r q => by
  obtain ⟨_, rfl, a⟩ := r.inv1
  obtain ⟨_, rfl⟩ := a.inv; exact P.str_of_int h (q _ _ (.str _ _) (.tok s _))
theorem c_bytes {ns : List Int} (hr : ∀ n ∈ ns, 0 ≤ n ∧ n < 256) (hsz : ns.length ≤ sizeLine) : OpL prog w base k (fun vs => call (.type "bytes") vs) [.list (ns.map .int)] (.bytes (byteArr ns)) := Seal.mk fun A X s Q E vs g _ r q => by
  obtain ⟨_, rfl, a0⟩ := r.inv1
  obtain ⟨a, vs, n, rfl, nx, e, rs⟩ := a0.inv
  exact call_bytes_ints ⟨_, e, rfl, n, rfl⟩ rs.ints hr (by rw [rs.length]; simpa using hsz) g.1 fun h' t k hk => q _ _ (.bytes _ _) (.of hk)
theorem c_sum {ns : List Int} : OpL prog w base k (fun vs => call (.builtin "sum") vs) [.list (ns.map .int)] (.int ns.sum) := Seal.mk fun A X s Q E vs g _ r q => by
  obtain ⟨_, rfl, a0⟩ := r.inv1
  obtain ⟨a, vs, n, rfl, nx, e, rs⟩ := a0.inv
  have hi := rs.ints
  obtain ⟨xs, hx⟩ := hi.allInts.items
  have hl' : s.heap.IsList a (intItems xs) := hx ▸ ⟨_, e, rfl, n, rfl⟩
  refine sum_intListG g.1 hl' fun h' tk t' hk => ?_
  have e1 : ns = xs.toList.map (·.1) := by
    rw [← nums_intItems, ← hx]
    exact (show numsOf vs.toArray.toList = ns from hi.numsOf).symm
  have e2 : preSum (numAt xs) xs.size = ns.sum := by
    rw [preSum_eq, List.take_of_length_le (by simp), e1]
  rw [e2]
  exact q _ _ (.int _ _) (.of hk)
theorem c_min {ns : List Int} {m : Int} (hm : m ∈ ns) (hb : ∀ a ∈ ns, m ≤ a) : OpL prog w base k (fun vs => call (.builtin "min") vs) [.list (ns.map .int)] (.int m) := Seal.mk fun A X s Q E vs g _ r q => by
  obtain ⟨_, rfl, a0⟩ := r.inv1
  obtain ⟨a, vs, n, rfl, nx, e, rs⟩ := a0.inv
  have hi := rs.ints
  obtain ⟨xs, hx⟩ := hi.allInts.items
  have hns : ns = xs.toList.map (·.1) := by
    rw [← nums_intItems, ← hx]
    exact (show numsOf vs.toArray.toList = ns from hi.numsOf).symm
  have hsz : 0 < xs.size := by
    have := List.length_pos_of_mem hm
    rw [hns, List.length_map, Array.length_toList] at this; exact this
  have hl' : s.heap.IsList a (intItems xs) := hx ▸ ⟨_, e, rfl, n, rfl⟩
  refine min_intList g.1 hl' hsz fun v h' tk hv hk => ?_
  obtain ⟨t, rfl⟩ := intItems_at hv
  obtain ⟨h1, h2⟩ := argBest_lt (numAt xs) (xs.size - 1)
  have em : numAt xs (argBest (fun i j => decide (numAt xs i < numAt xs j)) (xs.size - 1)) = m := by
    apply Int.le_antisymm
    · have hm' := hm
      rw [hns] at hm'
      obtain ⟨j, hj, e⟩ := mem_getD hm'
      rw [List.length_map, Array.length_toList] at hj
      rw [← e, ← numAt_eq]; exact h2 j (by omega)
    · apply hb
      rw [hns, numAt_eq]; exact getD_mem (by rw [List.length_map, Array.length_toList]; omega)
  rw [em]
  exact q _ _ (.int _ _) (.of hk)
theorem c_max {ns : List Int} {m : Int} (hm : m ∈ ns) (hb : ∀ a ∈ ns, a ≤ m) : OpL prog w base k (fun vs => call (.builtin "max") vs) [.list (ns.map .int)] (.int m) := Seal.mk fun A X s Q E vs g _ r q => by
  obtain ⟨_, rfl, a0⟩ := r.inv1
  obtain ⟨a, vs, n, rfl, nx, e, rs⟩ := a0.inv
  have hi := rs.ints
  obtain ⟨xs, hx⟩ := hi.allInts.items
  have hns : ns = xs.toList.map (·.1) := by
    rw [← nums_intItems, ← hx]
    exact (show numsOf vs.toArray.toList = ns from hi.numsOf).symm
  have hsz : 0 < xs.size := by
    have := List.length_pos_of_mem hm
    rw [hns, List.length_map, Array.length_toList] at this; exact this
  have hl' : s.heap.IsList a (intItems xs) := hx ▸ ⟨_, e, rfl, n, rfl⟩
  refine max_intList g.1 hl' hsz fun v h' tk hv hk => ?_
  obtain ⟨t, rfl⟩ := intItems_at hv
  obtain ⟨h1, h2⟩ := argBest_gt (numAt xs) (xs.size - 1)
  have em : numAt xs (argBest (fun i j => decide (numAt xs i > numAt xs j)) (xs.size - 1)) = m := by
    apply Int.le_antisymm
    · apply hb
      rw [hns, numAt_eq]; exact getD_mem (by rw [List.length_map, Array.length_toList]; omega)
    · have hm' := hm
      rw [hns] at hm'
      obtain ⟨j, hj, e⟩ := mem_getD hm'
      rw [List.length_map, Array.length_toList] at hj
      rw [← e, ← numAt_eq]; exact h2 j (by omega)
  rw [em]
  exact q _ _ (.int _ _) (.of hk)
/-! dicts -/
theorem find_map {kvs : List (Str × Value)} {kds : List (Str × D)} {P : World} {X : Addr → Prop} {h : Heap} {x : Str} {d : D} (e : kvs.map (·.1) = kds.map (·.1)) (r : RepAll P X h (kvs.map (·.2)) (kds.map (·.2))) (hd : kds.lookup x = some d) :
    ∃ v, valueAt kvs x = some v ∧ Rep P X h v d := by
  induction kvs generalizing kds with
  | nil => cases kds with
    | nil => simp at hd
    | cons a r => simp at e
  | cons p kvs ih =>
    cases kds with
    | nil => simp at e
    | cons a kds =>
      obtain ⟨y, v⟩ := p
      obtain ⟨z, c⟩ := a
      simp only [List.map_cons, List.cons.injEq] at e
      obtain ⟨rfl, e⟩ := e
      obtain ⟨r1, r⟩ := RepAll.uncons r
      by_cases hx : x = y
      · subst hx
        simp only [List.lookup_cons, beq_self_eq_true] at hd
        cases hd
        exact ⟨v, by simp [valueAt], r1⟩
      · have hb : (x == y) = false := by simpa using hx
        rw [List.lookup_cons, hb] at hd
        obtain ⟨u, h1, h2⟩ := ih e r hd
        refine ⟨u, ?_, h2⟩
        have : ¬ y = x := fun z => hx z.symm
        simpa [valueAt, this] using h1
end
end Mine
end
section
open PySem PySem.W PyProof.Rows PySem.Builtin.Str
namespace Mine
section
variable {w : World} {base : Heap} {k : Nat} {env : Env} {V O : List (Str × D)} {B : Str → Bool}
theorem g_dict {kds : List (Str × D)} {x : Str} {d : D} (h : kds.lookup x = some d) : Op2 P0 w base k getItem (.dict kds) (.str x) d := Seal.mk fun A X s Q E v u _ _ r1 r2 q => by
  obtain ⟨t, rfl⟩ := r2.inv
  obtain ⟨a, o, kvs, rfl, nx, z, e, ob, ek, rs⟩ := r1.inv
  obtain ⟨v, hv, rv⟩ := find_map ek rs h
  obtain ⟨es, ep, od⟩ := ob
  exact wpAny_getItem_of (knd := PySem.strKind P0 w) (strKind_is P0 w x t) (Heap.DictOf.mapOf ⟨o, es, ep, e, od⟩) hv (q v _ (rv.kp (Ks.tok s _).kp) (.tok s _))
theorem DObj.at {h : Heap} {a : Addr} {o : Obj} {kvs : List (Str × Value)} (ob : DObj w o kvs) (e : h.get? a = some o) : ∃ ep, h.DictAt (PySem.strKind P0 w) a kvs ep := by
  obtain ⟨es, ep, od⟩ := ob
  exact ⟨ep, o, es, e, od⟩
theorem keys_rep {X : Addr → Prop} {h : Heap} {x : Str} {v : Value} (hk : (PySem.strKind P0 w).is x v = true) : Rep w X h v (.str x) := by
  obtain ⟨t, rfl⟩ := Value.isStrOf_shape hk
  exact .str _ _
theorem EvIt.dict {e : Expr} {kds : List (Str × D)} (h : Ev P0 w base k env V e (.dict kds)) : EvIt P0 w base k env V e (kds.map fun p => .str p.1) := Seal.mk fun A X s Q E g S q => by
  refine h.out A X s _ E g S fun v s' r ks => ?_
  obtain ⟨a, o, kvs, rfl, nx, z, ha, ob, ek, rs⟩ := r.inv
  obtain ⟨ep, hat⟩ := ob.at ha
  refine wpAny_pyIter_dict z hat ?_
  have ne : a ≠ s'.heap.objs.size := Nat.ne_of_lt (Heap.lt_size ha)
  have hl : kvs.length = (kds.map fun p => D.str p.1).length := by
    have := congrArg List.length ek
    simpa using this
  refine q _ _ ⟨[s'.heap.objs.size, a], fun j v => ∃ k x, kvs[j]? = some (k, x) ∧ (PySem.strKind P0 w).is k v = true, fun i h => h.IsKeyIter s'.heap.objs.size a i kvs.length ep ∧ h.DictAt (PySem.strKind P0 w) a kvs ep, fun A hh => ?_, ⟨⟨_, Heap.get?_push_size _ rfl, rfl, rfl⟩, hat.push _⟩,
    fun j h' st => let ⟨o, e, c, _⟩ := st.1; ⟨o, e, .inr (.inr c)⟩, fun b hb => ?_, fun j v hj p => ?_⟩ (ks.none (get_size _)) ⟨_, Heap.get?_push_size _ rfl⟩ (ks.then (.push0 s' _))
  · have := Walks.dictKeys (knd := PySem.strKind P0 w) hh s'.heap.objs.size a ne kvs ep
    rwa [hl] at this ⊢
  · simp only [List.mem_cons, List.not_mem_nil, or_false] at hb
    rcases hb with rfl | rfl
    · exact ⟨.inl rfl, _, Heap.get?_push_size _ rfl⟩
    · exact ⟨.inr fun z => z.elim nx ne, _, Heap.get?_push_of_some _ ha⟩
  · obtain ⟨y, c, e1, e2⟩ := p
    refine ⟨.str y, ?_, keys_rep e2⟩
    have : (kds.map (·.1))[j]? = some y := by rw [← ek, List.getElem?_map, e1]; rfl
    rw [List.getElem?_map] at this ⊢
    cases hj' : kds[j]? with
    | none => rw [hj'] at this; cases this
    | some p => rw [hj'] at this; simp only [Option.map_some, Option.some.injEq] at this ⊢; rw [this]
theorem rep_strs {X : Addr → Prop} {h : Heap} : ∀ {xs : List Str} {vs : List Value}, vs.length = xs.length → (∀ (j : Nat) (v : Value), vs[j]? = some v → ∃ x t, xs[j]? = some x ∧ v = Value.str x t) → RepAll w X h vs (xs.map D.str)
  | [], [], _, _ => .nil
  | [], _ :: _, h, _ => by simp at h
  | _ :: _, [], h, _ => by simp at h
  | x :: xs, v :: vs, h, f => by
    obtain ⟨y, t, e1, e2⟩ := f 0 v rfl
    simp at e1
    subst e1 e2
    exact .cons (.str _ _) (rep_strs (by simpa using h) fun j u e => f (j + 1) u (by simpa using e))
theorem c_listD {kds : List (Str × D)} (hsz : kds.length ≤ sizeLine) : OpL P0 w base k (fun vs => call (.type "list") vs) [.dict kds] (.list (kds.map fun p => .str p.1)) := Seal.mk fun A X s Q E vs g o r q => by
  obtain ⟨_, rfl, a0⟩ := r.inv1
  obtain ⟨a, ob, kvs, rfl, nx, z, ha, od, ek, rs⟩ := a0.inv
  obtain ⟨ep, hat⟩ := od.at ha
  have hl : kvs.length = kds.length := by simpa using congrArg List.length ek
  refine kdl_call (kdl_dict (knd := PySem.strKind P0 w) (kvs := kvs) (ep := ep) z) g.1 hat (by rw [hl]; exact hsz) fun h' tk acc' c' hk hD hacc => ?_
  have ks : Ks s { s with heap := h', toks := tk } := .of hk
  refine q _ _ (.list (vs := acc'.toList) (n := c') o.fresh (by rw [hD]; simp [listObj]) ?_) ks
  have e : (kds.map fun p => D.str p.1) = (kds.map (·.1)).map D.str := by simp
  rw [e]
  refine rep_strs (by rw [Array.length_toList, hacc.1, List.length_map, hl]) fun j v e => ?_
  obtain ⟨y, c, e1, e2⟩ := hacc.2 j v (by rw [← Array.getElem?_toList]; exact e)
  obtain ⟨t, rfl⟩ := Value.isStrOf_shape e2
  exact ⟨y, t, by rw [← ek, List.getElem?_map, e1]; rfl, rfl⟩
end
end Mine
end
section
open PySem PySem.W PyProof.Rows PySem.Builtin.Str
namespace Mine
section
variable {w : World} {base : Heap} {k : Nat} {env : Env} {V O : List (Str × D)} {B : Str → Bool}
theorem rep_pairs {X : Addr → Prop} {h : Heap} : ∀ {kds : List (Str × D)} {kvs : List (Str × Value)} {as : List Addr}, kvs.map (·.1) = kds.map (·.1) → RepAll w X h (kvs.map (·.2)) (kds.map (·.2)) → as.length = kvs.length → (∀ a ∈ as, ¬ X a) →
    (∀ (j : Nat) (a : Addr), as[j]? = some a → ∃ key k x, kvs[j]? = some (k, x) ∧ (PySem.strKind P0 w).is k key = true ∧ h.get? a = some { cls := .type "tuple", data := .seq #[key, x] }) → RepAll w X h (as.map Value.ref) (kds.map fun p => .tup [.str p.1, p.2])
  | [], [], [], _, _, _, _, _ => .nil
  | (y, d) :: kds, (z, v) :: kvs, a :: as, e, .cons r rs, hl, hx, f => by
    simp only [List.map_cons, List.cons.injEq] at e
    obtain ⟨e1, e2⟩ := e
    subst e1
    obtain ⟨key, k, x, h1, h2, h3⟩ := f 0 a rfl
    simp at h1
    obtain ⟨rfl, rfl⟩ := h1
    obtain ⟨t, rfl⟩ := Value.isStrOf_shape h2
    refine .cons (.tup (vs := [.str z t, v]) (n := 0) (hx a List.mem_cons_self) h3 (.cons (.str _ _) (.cons r .nil))) ?_
    exact rep_pairs e2 rs (by simpa using hl) (fun b hb => hx b (List.mem_cons_of_mem _ hb)) fun j b e => f (j + 1) b (by simpa using e)
  | [], _ :: _, _, e, _, _, _, _ => by simp at e
  | _ :: _, [], _, e, _, _, _, _ => by simp at e
  | _, [], _ :: _, _, _, hl, _, _ => by simp at hl
  | _, _ :: _, [], _, _, hl, _, _ => by simp at hl
theorem Ev.listItems {o : Expr} {x : Str} {apos pos p1 p2 : Pos} {kds : List (Str × D)} (hg : GlobIs P0 w base x (.type "list")) (hk : env.kindOf x = some .globalImplicit) (ho : Ev P0 w base k env V o (.dict kds)) (hsz : kds.length ≤ sizeLine)
    (hbase : attributeBase o "items" env (eval o env) = eval o env := by rfl) (hline : (apos.endLine == pos.line) = true := by rfl)
    (he : starEach [Expr.Call (.Attribute o "items" apos) [] [] pos] env = [(false, eval (.Call (.Attribute o "items" apos) [] [] pos) env)] := by rfl) :
    Ev P0 w base k env V (.Call (.Name x p1) [.Call (.Attribute o "items" apos) [] [] pos] [] p2) (.list (kds.map fun p => .tup [.str p.1, p.2])) := Seal.mk fun A X s Q E g S q => by
  refine Call_Name rfl (hg.out A env s _ E p1 S.kind S.glob S.blt hk S.kept ?_)
  refine PyProof.Rows.callWith_type1 (h := ?_) (he := he) (hplain := by rfl)
  rw [he]
  refine Calls.spliced_cons ?_
  refine wpAny_Call_method hbase (by rfl) hline PySem.F.plainAttrs_dict PySem.F.slot_dict_items PySem.F.type_dict_items (ho.out A X s _ E g S fun v s1 rv k1 => ?_)
  obtain ⟨t1, t2⟩ := rv.typeIs (by show "dict" ≠ ""; decide)
  refine ⟨t1, t2, ?_⟩
  obtain ⟨a, ob, kvs, rfl, nx, z, ha, od, ek, rs⟩ := rv.inv
  obtain ⟨ep, hat⟩ := od.at ha
  have hl : kvs.length = kds.length := by simpa using congrArg List.length ek
  show wpAny _ _ (callWith pos (.builtin "dict.items") [.ref a] [] []) _ _ s1
  refine method_meetsIn PySem.F.slot_dict_items PySem.F.entry_dict_items rfl (PyProof.Rows.evalArgs_none ⟨rfl, hat.dictOf.typeIs, PySem.F.args_dict_items_1 _, _, meets_dict_items (PySem.strKind P0 w) a z, ⟨kvs, hat.dictOf⟩, ?_⟩)
  refine Calls.spliced_nil ?_
  have hat' := hat.push { cls := .type "dict_items", data := .fields #[.ref a] }
  have S1 := S.keeps k1
  refine kdx_call g.1 ⟨_, Heap.get?_push_size _ rfl, rfl, rfl⟩ hat' (by rw [hl]; exact hsz) fun h' tk acc c as hk' hD hal G hacc => ?_
  have kp' : Kp s1.heap h' := fun b o e => hk' b o (Heap.get?_push_of_some _ e)
  have fr : ∀ b, s1.heap.objs.size ≤ b → ¬ X b := fun b hb xb => by
    obtain ⟨o, e⟩ := S1.low b xb
    exact absurd (Heap.lt_size e) (Nat.not_lt.mpr hb)
  refine q _ _ (.list (vs := acc.toList) (n := c) (fr _ (by rw [Heap.size_push]; exact Nat.le_succ _)) (by rw [hD]; simp [listObj]) ?_) (k1.then (.of kp'))
  rw [hacc]
  exact rep_pairs ek (rs.kp kp') hal (fun b hb => fr b (Nat.le_of_lt (Nat.lt_of_le_of_lt (by rw [Heap.size_push]; exact Nat.le_succ _) (G.above b hb)))) G.pairs
noncomputable def putD (kds : List (Str × D)) (x : Str) (d : D) : List (Str × D) := if kds.any (fun kv => decide (kv.1 = x)) then kds.map (fun kv => if kv.1 = x then (kv.1, d) else kv) else kds ++ [(x, d)]
theorem put_keys {kvs : List (Str × Value)} {kds : List (Str × D)} (e : kvs.map (·.1) = kds.map (·.1)) (x : Str) (v : Value) (d : D) : (stored kvs x v).map (·.1) = (putD kds x d).map (·.1) := by
  have h1 : kvs.any (fun kv => decide (kv.1 = x)) = kds.any (fun kv => decide (kv.1 = x)) := by
    have a : kvs.any (fun kv => decide (kv.1 = x)) = (kvs.map (·.1)).any (fun y => decide (y = x)) := by rw [List.any_map]; rfl
    have b : kds.any (fun kv => decide (kv.1 = x)) = (kds.map (·.1)).any (fun y => decide (y = x)) := by rw [List.any_map]; rfl
    rw [a, b, e]
  unfold stored putD
  rw [h1]
  split
  · rw [List.map_map, List.map_map]
    have a : kvs.map ((·.1) ∘ fun kv => if kv.1 = x then (kv.1, v) else kv) = kvs.map (·.1) := List.map_congr_left fun kv _ => by simp only [Function.comp]; split <;> rfl
    have b : kds.map ((·.1) ∘ fun kv => if kv.1 = x then (kv.1, d) else kv) = kds.map (·.1) := List.map_congr_left fun kv _ => by simp only [Function.comp]; split <;> rfl
    rw [a, b, e]
  · simp [e]
theorem put_rep {P : World} {X : Addr → Prop} {h : Heap} {x : Str} {v : Value} {d : D} (rv : Rep P X h v d) : ∀ {kvs : List (Str × Value)} {kds : List (Str × D)}, kvs.map (·.1) = kds.map (·.1) → RepAll P X h (kvs.map (·.2)) (kds.map (·.2)) →
    RepAll P X h ((kvs.map fun kv => if kv.1 = x then (kv.1, v) else kv).map (·.2)) ((kds.map fun kv => if kv.1 = x then (kv.1, d) else kv).map (·.2))
  | [], [], _, _ => .nil
  | [], _ :: _, e, _ => by simp at e
  | _ :: _, [], e, _ => by simp at e
  | (y, u) :: kvs, (z, c) :: kds, e, .cons r rs => by
    simp only [List.map_cons, List.cons.injEq] at e
    obtain ⟨e1, e2⟩ := e
    subst e1
    simp only [List.map_cons]
    refine .cons ?_ (put_rep rv e2 rs)
    split
    · exact rv
    · exact r
theorem put_vals {P : World} {X : Addr → Prop} {h : Heap} {x : Str} {v : Value} {d : D} {kvs : List (Str × Value)} {kds : List (Str × D)} (rv : Rep P X h v d) (e : kvs.map (·.1) = kds.map (·.1)) (rs : RepAll P X h (kvs.map (·.2)) (kds.map (·.2))) :
    RepAll P X h ((stored kvs x v).map (·.2)) ((putD kds x d).map (·.2)) := by
  have h1 : kvs.any (fun kv => decide (kv.1 = x)) = kds.any (fun kv => decide (kv.1 = x)) := by
    have a : kvs.any (fun kv => decide (kv.1 = x)) = (kvs.map (·.1)).any (fun y => decide (y = x)) := by rw [List.any_map]; rfl
    have b : kds.any (fun kv => decide (kv.1 = x)) = (kds.map (·.1)).any (fun y => decide (y = x)) := by rw [List.any_map]; rfl
    rw [a, b, e]
  unfold stored putD
  rw [h1]
  split
  · exact put_rep rv e rs
  · rw [List.map_append, List.map_append]
    exact rs.append (.cons rv .nil)
theorem Step.setItem {x : Str} {i e : Expr} {p1 p2 p3 : Pos} {y : Str} {d : D} {kds : List (Str × D)} (hx : O.lookup x = some (.dict kds)) (he : Ev P0 w base k env V e d) (hi : Ev P0 w base k env V i (.str y)) (hsz : kds.length ≤ sizeLine)
    (hs : swapsWith e (some (.Subscript (.Name x p1) i p2)) p3.line env = pure false := by rfl) (hd : (x == ("__debug__" : Str)) = false := by decide) :
    Step P0 w base k env B V O (.Assign [.Subscript (.Name x p1) i p2] e p3) V ((x, .dict (putD kds y d)) :: O) := Seal.mk fun A X Y s Q E g F h => by
  obtain ⟨a, vx, ya, nl, bd, mu⟩ := F.mutate hx
  refine wpAny_Assign_Subscript (he.out A X s _ E g F.st fun v s1 rv k1 => name_own F.st.kind (vx.kp k1.kp) (hi.out A X s1 _ E g (F.st.keeps k1) fun iv s2 ri k2 => ?_) hd) hs
  have k12 := k1.then k2
  obtain ⟨ob, kvs, e1, od, ek, rs⟩ := id bd
  have hl : kvs.length = kds.length := by simpa using congrArg List.length ek
  obtain ⟨t, rfl⟩ := ri.inv
  obtain ⟨es, ep, odd⟩ := od
  refine wpAny_setItem_pairs (knd := PySem.strKind P0 w) (strKind_is P0 w y t) ⟨ob, es, ep, k12.kp _ _ e1, odd⟩ (fun h' hm sb => ?_) (by rw [hl]; exact hsz)
  have xa := (F.ow.sub _ ya).1
  have fx : Fixed X X s2.heap h' := ⟨fun b o n e => (sb.2 b fun z => n (z ▸ xa)).trans e, fun _ _ _ q => q⟩
  obtain ⟨o', es', ep', e', od'⟩ := hm
  obtain ⟨F', t'⟩ := mu s2 k12 h' (.dict (putD kds y d)) sb ⟨o', _, e', ⟨es', ep', od'⟩, put_keys ek y v d, put_vals ((rv.kp k2.kp).mono fx) ek ((rs.kp k12.kp).mono fx)⟩
  have kt : Ks { s2 with heap := h' } { s2 with heap := h', toks := s2.toks + 1 } := .tok _ _
  exact h X Y _ (F'.ks kt) (t'.trans F.st.low (.ks kt))
end
end Mine
end
section
open PySem PySem.W PyProof.Rows PySem.Builtin.Str
namespace Mine
section
variable {prog : Program} {w : World} {base : Heap} {k : Nat}
theorem rep_vals {X : Addr → Prop} {h : Heap} : ∀ (l : List (Str × Tok)), RepAll w X h (strValues l) ((l.map (·.1)).map D.str)
  | [] => .nil
  | (x, t) :: r => .cons (.str x t) (rep_vals r)
theorem rep_split {X : Addr → Prop} {s : Shared} {l : List (Str × Tok)} {xs : List Str} (o : Ok base X s) (e : l.map (·.1) = xs) {n : Nat} (hn : n = 0) : Rep w X (s.heap.push { cls := .type "list", data := .seq (strValues l).toArray n }) (.ref s.heap.objs.size) (.list (xs.map D.str)) := by
  subst hn e
  exact rep_newList o (rep_vals l)
theorem c_splitMax {x y : Str} {n : Int} (hy : (y.length == 0) = false) (hk : (decide (n < -(2 ^ 63 : Int)) || decide (n ≥ 2 ^ 63)) = false) (hsz : x.length + 2 ≤ sizeLine) :
    OpL prog w base k (fun vs => call (.builtin "str.split") vs) [.str x, .str y, .int n] (.list ((Txt.splitMax x y n).map D.str)) := Seal.mk fun A X s Q E vs _ o r q => by
  obtain ⟨_, _, _, rfl, a, b, c⟩ := r.inv3
  obtain ⟨t, rfl⟩ := a.inv
  obtain ⟨u, rfl⟩ := b.inv
  obtain ⟨v, rfl⟩ := c.inv
  have hn : (partsBetween x (occurrences x y 0 x.length (limitOf x n)) y.length).length ≤ sizeLine := by
    have e1 := StrLaws.occ_length_le_len x y 0 x.length (limitOf x n)
    rw [length_partsBetween]; omega
  cases h1 : (decide (x.length < y.length) || decide (strKind x < strKind y))
  · cases hf : (occurrences x y 0 x.length (limitOf x n)).isEmpty
    · refine call_meets PySem.F.slot_str_split (typeIs_str _ _ _) PySem.F.entry_str_split (PySem.F.args_str_split_3 _ _ _) (meets_str_split_sep_max x y n t u v hk h1 hy hf (by omega) hn) ?_
      show wants Q E _ { s with toks := _, heap := s.heap.push { cls := .type "list", data := .seq (strsFrom s.toks (partsBetween x (occurrences x y 0 x.length (limitOf x n)) y.length)).toArray } }
      rw [strsFrom_eq]
      refine q _ _ (rep_split o ?_ rfl) (.push s _ _)
      rw [numbered_texts]
      exact ((if_neg (ne_true_of_eq_false h1)).trans (if_neg (ne_true_of_eq_false hf))).symm
    · exact call_meets PySem.F.slot_str_split (typeIs_str _ _ _) PySem.F.entry_str_split (PySem.F.args_str_split_3 _ _ _) (meets_str_split_max_not_found x y n t u v hk h1 hy hf)
        (q _ _ (rep_split (l := [(x, t)]) o ((if_neg (ne_true_of_eq_false h1)).trans (if_pos hf)).symm rfl) (.push0 s _))
  · exact call_meets PySem.F.slot_str_split (typeIs_str _ _ _) PySem.F.entry_str_split (PySem.F.args_str_split_3 _ _ _) (meets_str_split_max_cannot_occur x y n t u v hk h1)
      (q _ _ (rep_split (l := [(x, t)]) o (if_pos h1).symm rfl) (.push0 s _))
theorem c_split {x y : Str} (hy : (y.length == 0) = false) (hsz : x.length + 2 ≤ sizeLine) : OpL prog w base k (fun vs => call (.builtin "str.split") vs) [.str x, .str y] (.list ((Txt.split x y).map D.str)) := Seal.mk fun A X s Q E vs _ o r q => by
  obtain ⟨_, _, rfl, a, b⟩ := r.inv2
  obtain ⟨t, rfl⟩ := a.inv
  obtain ⟨u, rfl⟩ := b.inv
  have hn : (partsBetween x (occurrences x y 0 x.length (x.length + 1)) y.length).length ≤ sizeLine := by
    have e1 := StrLaws.occ_length_le_len x y 0 x.length (x.length + 1)
    rw [length_partsBetween]; omega
  cases h1 : (decide (x.length < y.length) || decide (strKind x < strKind y))
  · cases hf : (occurrences x y 0 x.length (x.length + 1)).isEmpty
    · refine call_meets PySem.F.slot_str_split (typeIs_str _ _ _) PySem.F.entry_str_split (PySem.F.args_str_split_2 _ _) (meets_str_split_sep x y t u h1 hy hf (by omega) hn) ?_
      show wants Q E _ { s with toks := _, heap := s.heap.push { cls := .type "list", data := .seq (strsFrom s.toks (partsBetween x (occurrences x y 0 x.length (x.length + 1)) y.length)).toArray } }
      rw [strsFrom_eq]
      refine q _ _ (rep_split o ?_ rfl) (.push s _ _)
      rw [numbered_texts]
      exact ((if_neg (ne_true_of_eq_false h1)).trans (if_neg (ne_true_of_eq_false hf))).symm
    · exact call_meets PySem.F.slot_str_split (typeIs_str _ _ _) PySem.F.entry_str_split (PySem.F.args_str_split_2 _ _) (meets_str_split_not_found x y t u h1 hy hf)
        (q _ _ (rep_split (l := [(x, t)]) o ((if_neg (ne_true_of_eq_false h1)).trans (if_pos hf)).symm rfl) (.push0 s _))
  · exact call_meets PySem.F.slot_str_split (typeIs_str _ _ _) PySem.F.entry_str_split (PySem.F.args_str_split_2 _ _) (meets_str_split_cannot_occur x y t u h1)
      (q _ _ (rep_split (l := [(x, t)]) o (if_pos h1).symm rfl) (.push0 s _))
theorem strs_inv {X : Addr → Prop} {h : Heap} : ∀ {xs : List Str} {vs : List Value}, RepAll w X h vs (xs.map D.str) → ∃ l : List (Str × Tok), vs = strValues l ∧ l.map (·.1) = xs
  | [], _, .nil => ⟨[], rfl, rfl⟩
  | x :: xs, _ :: vs, .cons hd r => by
    obtain ⟨t, rfl⟩ := hd.inv
    obtain ⟨l, e1, e2⟩ := strs_inv r
    exact ⟨(x, t) :: l, by rw [e1]; rfl, by rw [← e2]; rfl⟩
theorem c_join {x : Str} {xs : List Str} (hok : JoinOk x xs = true) : OpL prog w base k (fun vs => call (.builtin "str.join") vs) [.str x, .list (xs.map D.str)] (.str (Txt.join x xs)) := Seal.mk fun A X s Q E vs _ o r q => by
  obtain ⟨_, _, rfl, a, b⟩ := r.inv2
  obtain ⟨t, rfl⟩ := a.inv
  obtain ⟨l, ws, n, rfl, nx, e, rs⟩ := b.inv
  obtain ⟨ps, e1, e2⟩ := strs_inv rs
  subst e1
  exact SC.join ⟨_, e, rfl, n, rfl⟩ e2 hok fun t' k => q _ _ (.str _ _) (.tok s _)
theorem ints_at {X : Addr → Prop} {h : Heap} {vs : List Value} {ns : List Int} (r : RepAll w X h vs (ns.map .int)) : ∀ (j : Nat) (h1 : j < vs.length), ∃ (h2 : j < ns.length) (t : Tok), vs[j] = .int ns[j] t := fun j h1 => by
  have hl : vs.length = ns.length := by simpa using r.length
  have h2 : j < ns.length := by omega
  obtain ⟨v, e, rv⟩ := r.get (i := j) (d := .int ns[j]) (by simp [h2])
  rw [List.getElem?_eq_getElem h1] at e
  cases e
  generalize vs[j] = v at rv
  obtain ⟨t, rfl⟩ := rv.inv
  exact ⟨h2, t, rfl⟩
theorem strs_at {X : Addr → Prop} {h : Heap} {vs : List Value} {ns : List Str} (r : RepAll w X h vs (ns.map .str)) : ∀ (j : Nat) (h1 : j < vs.length), ∃ (h2 : j < ns.length) (t : Tok), vs[j] = .str ns[j] t := fun j h1 => by
  have hl : vs.length = ns.length := by simpa using r.length
  have h2 : j < ns.length := by omega
  obtain ⟨v, e, rv⟩ := r.get (i := j) (d := .str ns[j]) (by simp [h2])
  rw [List.getElem?_eq_getElem h1] at e
  cases e
  generalize vs[j] = v at rv
  obtain ⟨t, rfl⟩ := rv.inv
  exact ⟨h2, t, rfl⟩
theorem c_indexI {ns : List Int} {x : Int} {j : Nat} (hj : ns[j]? = some x) (hno : ∀ m : Nat, m < j → ns[m]? ≠ some x) (hsm : j < 2 ^ 62) : OpL prog w base k (fun vs => call (.builtin "list.index") vs) [.list (ns.map .int), .int x] (.int j) := Seal.mk fun A X s Q E vs _ o r q => by
  obtain ⟨_, _, rfl, a, b⟩ := r.inv2
  obtain ⟨u, rfl⟩ := b.inv
  obtain ⟨l, ws, n, rfl, nx, e, rs⟩ := a.inv
  have hl : ws.length = ns.length := by simpa using rs.length
  have hjl : j < ns.length := (List.getElem?_eq_some_iff.mp hj).1
  have hx : ns[j] = x := (List.getElem?_eq_some_iff.mp hj).2
  obtain ⟨_, b⟩ := any_int (x := x) rs
  refine call_meets PySem.F.slot_list_index ⟨_, e, rfl⟩ PySem.F.entry_list_index (PySem.F.args_list_index_2 _ _)
    (PySem.SeqAt.list_indexAt l ws.toArray n Option.none #[] (.int x u) (hitI x) j (by simpa [hl] using hjl) (by omega) ?_ ?_) ⟨e, eqI b, q _ _ (.int _ _) (.tok s _)⟩
  · obtain ⟨h2, t, e'⟩ := ints_at rs j (by omega)
    simp only [List.getElem_toArray, e', hitI, hx, beq_self_eq_true]
  · intro m hm hlt
    obtain ⟨h2, t, e'⟩ := ints_at rs m (by simpa using hm)
    simp only [List.getElem_toArray, e', hitI]
    have := hno m hlt
    rw [List.getElem?_eq_getElem h2] at this
    simpa using this
theorem c_indexS {ns : List Str} {x : Str} {j : Nat} (hj : ns[j]? = some x) (hno : ∀ m : Nat, m < j → ns[m]? ≠ some x) (hsm : j < 2 ^ 62) : OpL prog w base k (fun vs => call (.builtin "list.index") vs) [.list (ns.map .str), .str x] (.int j) := Seal.mk fun A X s Q E vs _ o r q => by
  obtain ⟨_, _, rfl, a, b⟩ := r.inv2
  obtain ⟨u, rfl⟩ := b.inv
  obtain ⟨l, ws, n, rfl, nx, e, rs⟩ := a.inv
  have hl : ws.length = ns.length := by simpa using rs.length
  have hjl : j < ns.length := (List.getElem?_eq_some_iff.mp hj).1
  have hx : ns[j] = x := (List.getElem?_eq_some_iff.mp hj).2
  obtain ⟨_, b⟩ := any_str (x := x) rs
  refine call_meets PySem.F.slot_list_index ⟨_, e, rfl⟩ PySem.F.entry_list_index (PySem.F.args_list_index_2 _ _)
    (PySem.SeqAt.list_indexAt l ws.toArray n Option.none #[] (.str x u) (hitS x) j (by simpa [hl] using hjl) (by omega) ?_ ?_) ⟨e, eqS b, q _ _ (.int _ _) (.tok s _)⟩
  · obtain ⟨h2, t, e'⟩ := strs_at rs j (by omega)
    simp only [List.getElem_toArray, e', hitS, hx, decide_true]
  · intro m hm hlt
    obtain ⟨h2, t, e'⟩ := strs_at rs m (by simpa using hm)
    simp only [List.getElem_toArray, e', hitS]
    have := hno m hlt
    rw [List.getElem?_eq_getElem h2] at this
    simpa using this
end
end Mine
end
section
open PySem PySem.W PyProof.Rows PySem.Builtin.Str
namespace Mine
section
variable {prog : Program} {w : World} {A : Around} {X : Addr → Prop} {E : Value → Shared → Prop} {base : Heap} {k : Nat} {env : Env} {B : Str → Bool} {V V' O : List (Str × D)}
theorem draw_it {I : Addr} {ds : List D} (hh : A.handled = none) (xI : X I) : ∀ (n i : Nat) (s : Shared) (Q : List Value → Shared → Prop), ItOK prog w X I ds i s.heap → i + n ≤ ds.length →
    (∀ vs h' tk, RepAll w X h' vs ((ds.drop i).take n) → ItOK prog w X I ds (i + n) h' → (∀ b o, b ≠ I → s.heap.get? b = some o → h'.get? b = some o) → Q vs { s with heap := h', toks := tk }) → wpAny (model prog w) A (draw (.ref I) n) Q E s
  | 0, i, s, Q, t, _, h => wpAny_pure (h [] s.heap s.toks (by simp; exact .nil) t fun _ _ _ e => e)
  | n + 1, i, s, Q, t, hle, h => by
    have hlt : i < ds.length := by omega
    show wpAny _ _ (pyNext (.ref I) >>= _) Q E s
    refine wpAny_bind (t.item hh hlt xI fun d v h1 tk1 l r t1 k1 _ => ?_)
    refine wpAny_bind (wpAny_holding (draw_it hh xI n (i + 1) _ _ t1 (by omega) fun vs h2 tk2 rs t2 k2 => wpAny_pure ?_))
    rw [List.getElem?_eq_getElem hlt] at l
    cases l
    have e : (ds.drop i).take (n + 1) = ds[i] :: (ds.drop (i + 1)).take n := by rw [List.drop_eq_getElem_cons hlt, List.take_succ_cons]
    refine h (v :: vs) h2 tk2 ?_ (by rw [show i + (n + 1) = i + 1 + n by omega]; exact t2) fun b o n e => k2 b o n (k1 b o n e)
    rw [e]
    exact .cons (r.mono ⟨fun b o nx e => k2 b o (fun z => nx (z ▸ xI)) e, fun _ _ _ z => z⟩) rs
theorem unpack_rep {ds : List D} {v : Value} {a : D} {s : Shared} {Q : List Value → Shared → Prop} (ha : a = .list ds ∨ a = .tup ds) (hh : A.handled = none) (o : ∀ b, X b → ∃ o, s.heap.get? b = some o) (r : Rep w X s.heap v a)
    (h : ∀ vs s', RepAll w X s'.heap vs ds → Ks s s' → Q vs s') : wpAny (model prog w) A (unpackItems v ds.length none) Q E s := by
  have core : ∀ (I : Addr) (s1 : Shared), s.heap.get? I = none → Ks s s1 → ItOK prog w (fun b => X b ∨ b = I) I ds 0 s1.heap → wpAny (model prog w) A (do
      let items ← holding [.ref I] (draw (.ref I) ds.length)
      if items.length < ds.length then
        rule "unpack.too-few"; raiseError "ValueError" s!"not enough values to unpack (expected {ds.length}, got {items.length})"
      if (← holding items (pyNext (.ref I))).isSome then
        rule "unpack.too-many"; raiseError "ValueError" s!"too many values to unpack (expected {ds.length})"
      return items) Q E s1 := fun I s1 nI ks t => by
    refine wpAny_bind (wpAny_holding (draw_it hh (.inr rfl) ds.length 0 _ _ t (by omega) fun vs h1 tk1 rs t1 k1 => ?_))
    rw [List.drop_zero, List.take_of_length_le (Nat.le_refl _)] at rs
    rw [if_neg (by rw [rs.length]; exact Nat.lt_irrefl _)]
    rw [Nat.zero_add] at t1
    refine wpAny_bind (wpAny_holding (t1.done hh fun h2 tk2 k2 => ?_))
    simp only [Option.isSome_none, Bool.false_eq_true, if_false]
    obtain ⟨h0, tk0, rfl, kp⟩ := ks
    refine wpAny_pure (h vs _ (rs.mono ⟨fun b o n e => k2 b o (fun z => n (.inr z)) e, fun _ _ _ z => .inl z⟩) ⟨h2, tk2, rfl, fun b o e => ?_⟩)
    have ne : b ≠ I := fun z => by rw [z, nI] at e; cases e
    exact k2 b o ne (k1 b o ne (kp b o e))
  unfold unpackItems
  rcases ha with rfl | rfl
  · obtain ⟨a, vs, n, rfl, nx, e, rs⟩ := r.inv
    have ne : a ≠ s.heap.objs.size := Nat.ne_of_lt (Heap.lt_size e)
    refine wpAny_bind ?_
    unfold notIterableAtAll
    refine wpAny_bind (wpAny_specialOf ⟨_, e, rfl⟩ slot_list_iter.lookup ?_)
    refine wpAny_pure ?_
    simp only [Bool.false_eq_true, if_false]
    refine wpAny_bind (wpAny_holding (wpAny_pyIter_list ⟨_, e, rfl, n, rfl⟩ (core _ _ (get_size _) (.push0 s _) ?_)))
    refine ⟨[s.heap.objs.size, a], fun j v => vs.toArray[j]? = some v, fun i h => h.IsListIter s.heap.objs.size a i ∧ h.IsList a vs.toArray, fun A hh => ?_, ⟨⟨_, Heap.get?_push_size _ rfl, rfl, rfl⟩, ⟨_, Heap.get?_push_of_some _ e, rfl, n, rfl⟩⟩,
      fun j h' st => let ⟨o, e, c, _⟩ := st.1; ⟨o, e, .inl c⟩, fun b hb => ?_, fun j v hj p => ?_⟩
    · have := Walks.list (prog := prog) (w := w) hh s.heap.objs.size a ne vs.toArray
      have hz : vs.toArray.size = ds.length := by simp [rs.length]
      rwa [hz] at this
    · simp only [List.mem_cons, List.not_mem_nil, or_false] at hb
      rcases hb with rfl | rfl
      · exact ⟨.inl rfl, _, Heap.get?_push_size _ rfl⟩
      · exact ⟨.inr fun z => z.elim nx ne, _, Heap.get?_push_of_some _ e⟩
    · have p' : vs[j]? = some v := by simpa using p
      obtain ⟨u, e1, e2⟩ := rs.get (i := j) (d := ds[j]) (by simp [hj])
      rw [p'] at e1
      cases e1
      exact ⟨_, by simp [hj], e2.mono ⟨fun _ _ _ e => Heap.get?_push_of_some _ e, fun b o e z => z.elim id fun z => absurd (Heap.lt_size e) (by rw [z]; exact Nat.lt_irrefl _)⟩⟩
  · obtain ⟨a, vs, n, rfl, nx, e, rs⟩ := r.inv
    have hz : vs.toArray.size = ds.length := by simp [rs.length]
    have := PyProof.Rows.unpackItems_tuple (prog := prog) (w := w) (E := E) (Q := Q) hh (t := a) (items := vs.toArray) ⟨_, e, rfl, n, rfl⟩ fun h' ex => ?_
    · rw [hz] at this
      unfold unpackItems at this
      exact this
    · have kp : Kp s.heap h' := fun b o e => ex b o (Nat.ne_of_lt (Heap.lt_size e)) e
      exact h _ _ (rs.kp kp) ⟨h', s.toks, rfl, kp⟩
end
end Mine
end
section
open PySem PySem.W PyProof.Rows PySem.Builtin.Str
namespace Mine
section
variable {prog : Program} {w : World} {base : Heap} {k : Nat} {env : Env} {B : Str → Bool} {V V' O : List (Str × D)}
theorem Kl.ks {s s' s'' : Shared} (k : Ks s s') (l : Kl env s' s'') : Kl env s s'' := fun b o e n c => l b o (k.kp b o e) n c
theorem Kl.then {s s' s'' : Shared} (a : Kl env s s') (l : Kl env s' s'') : Kl env s s'' := fun b o e n c => l b o (a b o e n c) n c
theorem Tgt.tup2 {x y : Str} {px py p : Pos} {n : Nat} {d1 d2 a : D} (ha : a = .list [d1, d2] ∨ a = .tup [d1, d2]) (hx : B x = true) (hy : B y = true) (ox : O.lookup x = none) (oy : O.lookup y = none) :
    Tgt prog w base k env B V O (.Tuple [.Name x px, .Name y py] n p) a ((y, d2) :: (x, d1) :: V) := Seal.mk fun A X Y s v Q E g F r q => by
  rw [PyProof.Rows.assign_Tuple]
  refine wpAny_bind (wpAny_standAt ?_)
  have e1 : assignEach [.Name x px, .Name y py] env = [(false, PySem.assign (.Name x px) env), (false, PySem.assign (.Name y py) env)] := rfl
  unfold unpack
  rw [e1]
  show wpAny _ _ (holding [v] (unpackItems v 2 Option.none) >>= fun items => assignInOrder [PySem.assign (.Name x px) env, PySem.assign (.Name y py) env] items) _ _ s
  refine wpAny_bind (wpAny_holding (unpack_rep (ds := [d1, d2]) ha g.1 F.st.low r fun vs s1 rs ks => ?_))
  obtain ⟨_, _, rfl, r1, r2⟩ := rs.inv2
  refine wpAny_assignInOrder_more (wpAny_assign_Name (store_V (F.ks ks) (F.ow.bnd x hx) ox r1 fun s2 F2 t2 l2 => ?_))
  refine wpAny_assignInOrder_more (wpAny_assign_Name (store_V F2 (F2.ow.bnd y hy) oy (r2.mono (t2.fixed' fun b y => (F2.ow.sub b y).1)) fun s3 F3 t3 l3 => wpAny_assignInOrder_none ?_))
  exact q s3 F3 ((t2.kt ks).trans F.st.low t3) ((Kl.ks ks l2).then l3)
theorem Tgt.tup3 {x y z : Str} {px py pz p : Pos} {n : Nat} {d1 d2 d3 a : D} (ha : a = .list [d1, d2, d3] ∨ a = .tup [d1, d2, d3]) (hx : B x = true) (hy : B y = true) (hz : B z = true) (ox : O.lookup x = none) (oy : O.lookup y = none) (oz : O.lookup z = none) :
    Tgt prog w base k env B V O (.Tuple [.Name x px, .Name y py, .Name z pz] n p) a ((z, d3) :: (y, d2) :: (x, d1) :: V) := Seal.mk fun A X Y s v Q E g F r q => by
  rw [PyProof.Rows.assign_Tuple]
  refine wpAny_bind (wpAny_standAt ?_)
  have e1 : assignEach [.Name x px, .Name y py, .Name z pz] env = [(false, PySem.assign (.Name x px) env), (false, PySem.assign (.Name y py) env), (false, PySem.assign (.Name z pz) env)] := rfl
  unfold unpack
  rw [e1]
  show wpAny _ _ (holding [v] (unpackItems v 3 Option.none) >>= fun items => assignInOrder [PySem.assign (.Name x px) env, PySem.assign (.Name y py) env, PySem.assign (.Name z pz) env] items) _ _ s
  refine wpAny_bind (wpAny_holding (unpack_rep (ds := [d1, d2, d3]) ha g.1 F.st.low r fun vs s1 rs ks => ?_))
  obtain ⟨_, _, _, rfl, r1, r2, r3⟩ := rs.inv3
  refine wpAny_assignInOrder_more (wpAny_assign_Name (store_V (F.ks ks) (F.ow.bnd x hx) ox r1 fun s2 F2 t2 l2 => ?_))
  have f2 := t2.fixed' fun b y => (F2.ow.sub b y).1
  refine wpAny_assignInOrder_more (wpAny_assign_Name (store_V F2 (F2.ow.bnd y hy) oy (r2.mono f2) fun s3 F3 t3 l3 => ?_))
  have f3 := t3.fixed' fun b y => (F3.ow.sub b y).1
  refine wpAny_assignInOrder_more (wpAny_assign_Name (store_V F3 (F3.ow.bnd z hz) oz ((r3.mono f2).mono f3) fun s4 F4 t4 l4 => wpAny_assignInOrder_none ?_))
  exact q s4 F4 (((t2.kt ks).trans F.st.low t3).trans F.st.low t4) (((Kl.ks ks l2).then l3).then l4)
end
end Mine
end
section
open PySem PySem.W PyProof.Rows PySem.Builtin.Str
namespace Mine
/-! texts as lists -/
noncomputable def hexC (n : Nat) : Nat := if n < 10 then 48 + n else 55 + n
noncomputable abbrev S (l : List Nat) : Str := ⟨l.toArray⟩
theorem S_app (a b : List Nat) : S a ++ S b = S (a ++ b) := by apply Str.ext'; simp [Str.cps_append]
theorem S_len (a : List Nat) : (S a).length = a.length := by simp [Str.length]
theorem S_inj {a b : List Nat} : S a = S b ↔ a = b := by
  constructor
  · intro h; simpa [S] using h
  · intro h; rw [h]
theorem S_list (x : Str) : S x.cps.toList = x := by apply Str.ext'; simp
noncomputable def spl (c : Nat) : Nat → List Nat → List (List Nat)
  | _, [] => [[]]
  | 0, l => [l]
  | n + 1, a :: r => if a = c then [] :: spl c n r else match spl c (n + 1) r with
    | h :: t => (a :: h) :: t
    | [] => [[a]]
theorem spl_ne (c : Nat) : ∀ (n : Nat) (l : List Nat), ∃ h t, spl c n l = h :: t
  | 0, [] => ⟨_, _, rfl⟩
  | n + 1, [] => ⟨_, _, rfl⟩
  | 0, a :: r => ⟨_, _, rfl⟩
  | n + 1, a :: r => by
    unfold spl
    split
    · exact ⟨_, _, rfl⟩
    · obtain ⟨h, t, e⟩ := spl_ne c (n + 1) r
      rw [e]; exact ⟨_, _, rfl⟩
theorem spl_none {c : Nat} (n : Nat) : ∀ {l : List Nat}, c ∉ l → spl c n l = [l] := by
  intro l
  induction l with
  | nil => intro _; cases n <;> rfl
  | cons a r ih =>
    intro h
    simp only [List.mem_cons, not_or] at h
    cases n with
    | zero => rfl
    | succ n => unfold spl; rw [if_neg (Ne.symm h.1), ih h.2]
theorem spl_app {c : Nat} (n : Nat) (r : List Nat) : ∀ {a : List Nat}, c ∉ a → spl c (n + 1) (a ++ c :: r) = a :: spl c n r := by
  intro a
  induction a with
  | nil => intro _; simp [spl]
  | cons b a ih =>
    intro h
    simp only [List.mem_cons, not_or] at h
    rw [List.cons_append, spl, if_neg (Ne.symm h.1), ih h.2]
noncomputable def posF (c : Nat) : Nat → List Nat → List Nat
  | _, [] => []
  | i, a :: r => if a = c then i :: posF c (i + 1) r else posF c (i + 1) r
noncomputable def preL (p : List Nat) : List (List Nat) → List (List Nat)
  | [] => []
  | h :: t => (p ++ h) :: t
theorem occ_run (x : Str) (c limit : Nat) : ∀ (m i : Nat) (f : Array Nat) (free : Nat), free ≤ i → i + m = x.length + 1 →
    (forIn (List.range' i m) (f, free) (StrLaws.occBody x ⟨#[c]⟩ x.length limit)).run.fst.toList = f.toList ++ (posF c i (x.cps.toList.drop i)).take (limit - f.size)
  | 0, i, f, free, _, hm => by
    have : x.cps.toList.drop i = [] := List.drop_eq_nil_of_le (by simp [Str.length] at hm ⊢; omega)
    simp [this, posF]
  | m + 1, i, f, free, hf, hm => by
    rw [List.range'_succ, List.forIn_cons]
    have one := StrLaws.subAt_one x c i
    unfold StrLaws.occBody
    by_cases hi : i < x.length
    · have hi' : i < x.cps.toList.length := by simpa [Str.length] using hi
      rw [List.drop_eq_getElem_cons hi']
      by_cases hc : x.cps.toList[i] = c
      · have hat := one.mpr (by rw [List.getElem?_eq_getElem hi', hc])
        unfold posF
        rw [if_pos hc]
        by_cases hl : f.size < limit
        · rw [if_pos ⟨⟨⟨hl, hf⟩, hat.1⟩, hat.2⟩]
          have ih := occ_run x c limit m (i + 1) (f.push i) (i + (⟨#[c]⟩ : Str).length) (Nat.le_refl _) (by omega)
          refine Eq.trans ih ?_
          rw [Array.toList_push, Array.size_push, show limit - f.size = (limit - (f.size + 1)) + 1 by omega, List.take_succ_cons, List.append_assoc]
          rfl
        · rw [if_neg (fun h => hl h.1.1.1)]
          have ih := occ_run x c limit m (i + 1) f free (by omega) (by omega)
          refine Eq.trans ih ?_
          rw [show limit - f.size = 0 by omega, List.take_zero, List.take_zero]
      · have hat : ¬ (i + (⟨#[c]⟩ : Str).length ≤ x.length ∧ subAt x ⟨#[c]⟩ i = true) := fun h => by
          have := one.mp h
          rw [List.getElem?_eq_getElem hi'] at this
          exact hc (Option.some.inj this)
        rw [if_neg (fun h => hat ⟨h.1.2, h.2⟩)]
        unfold posF
        rw [if_neg hc]
        exact occ_run x c limit m (i + 1) f free (by omega) (by omega)
    · have hd : x.cps.toList.drop i = [] := List.drop_eq_nil_of_le (by simp [Str.length] at hi ⊢; omega)
      have hat : ¬ (i + (⟨#[c]⟩ : Str).length ≤ x.length ∧ subAt x ⟨#[c]⟩ i = true) := fun h => by
        have := one.mp h
        rw [← List.head?_drop, hd] at this
        cases this
      rw [if_neg (fun h => hat ⟨h.1.2, h.2⟩)]
      have ih := occ_run x c limit m (i + 1) f free (by omega) (by omega)
      have hd' : x.cps.toList.drop (i + 1) = [] := List.drop_eq_nil_of_le (by simp [Str.length] at hi ⊢; omega)
      rw [hd'] at ih
      rw [hd]
      exact ih
theorem parts_run (x : Str) (c : Nat) : ∀ (m n a i : Nat), a ≤ i → i + m = x.length → (∀ y ∈ (x.cps.toList.drop a).take (i - a), y ≠ c) →
    StrLaws.partsFrom x 1 a ((posF c i (x.cps.toList.drop i)).take n) = (preL ((x.cps.toList.drop a).take (i - a)) (spl c n (x.cps.toList.drop i))).map S
  | 0, n, a, i, ha, hm, hp => by
    have hd : x.cps.toList.drop i = [] := List.drop_eq_nil_of_le (by simp [Str.length] at hm ⊢; omega)
    rw [hd]
    have e : spl c n [] = [[]] := by cases n <;> rfl
    rw [e]
    simp only [posF, List.take_nil, StrLaws.partsFrom, preL, List.map_cons, List.map_nil, List.append_nil]
    rw [show i = x.length by omega, ← StrLaws.strSub_toList, S_list]
  | m + 1, n, a, i, ha, hm, hp => by
    have hi' : i < x.cps.toList.length := by simp [Str.length] at hm ⊢; omega
    have hcut : (x.cps.toList.drop a).take (i + 1 - a) = (x.cps.toList.drop a).take (i - a) ++ [x.cps.toList[i]] := by
      rw [show i + 1 - a = (i - a) + 1 by omega, List.take_add_one]
      congr 1
      rw [List.getElem?_drop, show a + (i - a) = i by omega, List.getElem?_eq_getElem hi']
      rfl
    rw [List.drop_eq_getElem_cons hi']
    cases n with
    | zero =>
      simp only [List.take_zero, StrLaws.partsFrom, spl, preL, List.map_cons, List.map_nil]
      rw [← List.drop_eq_getElem_cons hi']
      have : (x.cps.toList.drop a).take (i - a) ++ x.cps.toList.drop i = (x.cps.toList.drop a).take (x.length - a) := by
        rw [List.take_of_length_le (i := x.length - a) (by simp [Str.length])]
        have : x.cps.toList.drop i = (x.cps.toList.drop a).drop (i - a) := by rw [List.drop_drop]; congr 1; omega
        rw [this, List.take_append_drop]
      rw [this, ← StrLaws.strSub_toList, S_list]
    | succ n =>
      by_cases hc : x.cps.toList[i] = c
      · simp only [posF, hc, if_true, List.take_succ_cons, StrLaws.partsFrom, spl, preL, List.map_cons, List.append_nil]
        have ih := parts_run x c m n (i + 1) (i + 1) (Nat.le_refl _) (by omega) (by simp)
        rw [ih, Nat.sub_self, List.take_zero, ← StrLaws.strSub_toList, S_list]
        obtain ⟨h, t, e⟩ := spl_ne c n (x.cps.toList.drop (i + 1))
        rw [e]
        simp [preL]
      · have ih := parts_run x c m (n + 1) a (i + 1) (by omega) (by omega) (fun y hy => by
          rw [hcut, List.mem_append] at hy
          rcases hy with hy | hy
          · exact hp y hy
          · simp at hy; rw [hy]; exact hc)
        have e1 : posF c i (x.cps.toList[i] :: x.cps.toList.drop (i + 1)) = posF c (i + 1) (x.cps.toList.drop (i + 1)) := by
          rw [posF, if_neg hc]
        rw [e1, ih, hcut]
        obtain ⟨h, t, e⟩ := spl_ne c (n + 1) (x.cps.toList.drop (i + 1))
        have e2 : spl c (n + 1) (x.cps.toList[i] :: x.cps.toList.drop (i + 1)) = (x.cps.toList[i] :: h) :: t := by
          rw [spl, if_neg hc, e]
        rw [e2, e]
        simp [preL]
theorem kind_le (x : Str) : 1 ≤ Builtin.Str.strKind x := by
  unfold Builtin.Str.strKind
  split
  · exact Nat.le_refl _
  · split <;> decide
theorem kind_one {c : Nat} (h : c < 256) : Builtin.Str.strKind ⟨#[c]⟩ = 1 := by unfold Builtin.Str.strKind; rw [if_pos (by simp [h])]
theorem spl_of_short {x : Str} {c n : Nat} (h : x.length < 1) : [x] = (spl c n x.cps.toList).map S := by
  have : x.cps.toList = [] := by simp [Str.length] at h; simp [h]
  rw [this]
  have e : spl c n [] = [[]] := by cases n <;> rfl
  rw [e]
  simp only [List.map_cons, List.map_nil, List.cons.injEq, and_true]
  rw [← this, S_list]
theorem split_core (x : Str) (c limit : Nat) (hc : c < 256) : (if (decide (x.length < (⟨#[c]⟩ : Str).length) || decide (Builtin.Str.strKind x < Builtin.Str.strKind ⟨#[c]⟩)) = true then [x] else
    if (occurrences x ⟨#[c]⟩ 0 x.length limit).isEmpty = true then [x] else partsBetween x (occurrences x ⟨#[c]⟩ 0 x.length limit) (⟨#[c]⟩ : Str).length) = (spl c limit x.cps.toList).map S := by
  have hk : decide (Builtin.Str.strKind x < Builtin.Str.strKind ⟨#[c]⟩) = false := by rw [kind_one hc]; exact decide_eq_false (Nat.not_lt.mpr (kind_le x))
  rw [hk, Bool.or_false]
  by_cases h1 : x.length < (⟨#[c]⟩ : Str).length
  · rw [if_pos (decide_eq_true h1)]; exact spl_of_short h1
  · rw [if_neg (by simpa using h1)]
    have ho : occurrences x ⟨#[c]⟩ 0 x.length limit = (posF c 0 x.cps.toList).take limit := by
      rw [StrLaws.occ_eq, Nat.sub_zero, occ_run x c limit (x.length + 1) 0 #[] 0 (Nat.le_refl _) (by omega)]
      simp
    have hp := parts_run x c x.length limit 0 0 (Nat.le_refl _) (by omega) (by simp)
    rw [List.drop_zero, Nat.sub_self, List.take_zero] at hp
    have hpre : preL [] (spl c limit x.cps.toList) = spl c limit x.cps.toList := by
      obtain ⟨h, t, e⟩ := spl_ne c limit x.cps.toList
      rw [e]; rfl
    rw [hpre] at hp
    rw [ho]
    split
    · rename_i he
      rw [List.isEmpty_iff.mp he] at hp
      rw [← hp]
      show [x] = [strSub x 0 x.length]
      rw [StrLaws.sub_whole]
    · rw [StrLaws.partsBetween_eq]
      exact hp
theorem splitMax_S {c : Nat} (hc : c < 256) (l : List Nat) (n : Nat) : Txt.splitMax (S l) ⟨#[c]⟩ (n : Int) = (spl c n l).map S := by
  have := split_core (S l) c n hc
  rw [show (S l).cps.toList = l by simp] at this
  rw [← this]
  unfold Txt.splitMax
  have hl : limitOf (S l) (n : Int) = n := by unfold limitOf; rw [if_neg (by omega)]; simp
  rw [hl]
theorem split_S {c : Nat} (hc : c < 256) (l : List Nat) : Txt.split (S l) ⟨#[c]⟩ = (spl c (l.length + 1) l).map S := by
  have := split_core (S l) c (l.length + 1) hc
  rw [show (S l).cps.toList = l by simp] at this
  rw [← this]
  unfold Txt.split
  rw [S_len]
/-! joined words -/
noncomputable def joinL (c : Nat) : List (List Nat) → List Nat
  | [] => []
  | [a] => a
  | a :: b :: r => a ++ c :: joinL c (b :: r)
theorem join_S (c : Nat) : ∀ ws : List (List Nat), Str.join ⟨#[c]⟩ (ws.map S) = S (joinL c ws)
  | [] => rfl
  | [a] => rfl
  | a :: b :: r => by
    show S a ++ ⟨#[c]⟩ ++ Str.join ⟨#[c]⟩ ((b :: r).map S) = _
    rw [join_S c (b :: r)]
    apply Str.ext'
    simp [Str.cps_append, joinL]
theorem txtjoin_S (c : Nat) (ws : List (List Nat)) : Txt.join ⟨#[c]⟩ (ws.map S) = S (joinL c ws) := by
  unfold Txt.join; rw [StrLaws.glued_eq_join, join_S]
theorem spl_join {c : Nat} : ∀ (ws : List (List Nat)) (n : Nat), ws ≠ [] → (∀ a ∈ ws, c ∉ a) → ws.length ≤ n + 1 → spl c n (joinL c ws) = ws
  | [], _, h, _, _ => (h rfl).elim
  | [a], n, _, h, _ => spl_none n (h a List.mem_cons_self)
  | a :: b :: r, n, _, h, hn => by
    obtain ⟨n, rfl⟩ : ∃ m, n = m + 1 := ⟨n - 1, by simp at hn; omega⟩
    show spl c (n + 1) (a ++ c :: joinL c (b :: r)) = _
    rw [spl_app n _ (h a List.mem_cons_self), spl_join (b :: r) n (by simp) (fun x hx => h x (List.mem_cons_of_mem _ hx)) (by simpa using hn)]
theorem joinL_len (c : Nat) : ∀ ws : List (List Nat), ws.length ≤ (joinL c ws).length + 1
  | [] => by simp
  | [a] => by simp
  | a :: b :: r => by
    have := joinL_len c (b :: r)
    simp only [joinL, List.length_cons, List.length_append] at this ⊢
    omega
end Mine
end
section
open PySem PySem.W PyProof.Rows PySem.Builtin.Str PySem.Builtin
namespace Mine
/-! bytes.decode('latin1') -/
theorem args_bytes_decode_2 (a b : Value) : argsOk "bytes.decode" ⟨[a, b], []⟩ := by
  unfold argsOk; rw [signature?_of (id := "bytes.decode") (n := ['e', 'd', 'o', 'c', 'e', 'd']) (o := ['s', 'e', 't', 'y', 'b']) (by kernel_rfl) FB.owner_bytes]; kernel_rfl
noncomputable def latin (b : List UInt8) : List Nat := b.map (·.toNat)
theorem forIn_steps {β : Type} {body : Nat → β → Sem (ForInStep β)} (F : Nat → β) : ∀ (m i : Nat), (∀ j, i ≤ j → j < i + m → body j (F j) = pure (.yield (F (j + 1)))) → forIn (List.range' i m) (F i) body = pure (F (i + m))
  | 0, i, _ => rfl
  | m + 1, i, h => by
    rw [List.range'_succ, List.forIn_cons, h i (Nat.le_refl _) (by omega)]
    show forIn (List.range' (i + 1) m) (F (i + 1)) body = _
    rw [forIn_steps F m (i + 1) (fun j h1 h2 => h j (by omega) (by omega)), show i + 1 + m = i + (m + 1) by omega]
theorem latin_runs (id : String) (b : List UInt8) (hb : b.length ≤ 1000) : _codecs.runDecoder id _codecs.latin1Decoder none true b.toArray 0 [] = pure ((latin b).toArray, b.length) := by
  have hz : sizeLine = 16777216 := sizeLine_eq
  unfold _codecs.runDecoder
  show (forIn [:b.toArray.size] _ _ >>= _) = _
  rw [Std.Legacy.Range.forIn_eq_forIn_range']
  refine (congrArg (· >>= _) (forIn_steps (fun j => (j, ((latin b).take j).toArray, ({ held := [] } : _codecs.Faults))) _ 0 fun j h1 h2 => ?_)).trans ?_
  · have hj : j < b.length := by simpa [Std.Legacy.Range.size] using h2
    have e1 : ¬ ((latin b).take j).toArray.size > sizeLine := by rw [hz]; simp [latin]; omega
    have e2 : ¬ j ≥ b.toArray.size := by simpa using hj
    dsimp only
    rw [if_neg e1, if_neg e2]
    show (pure (ForInStep.yield (j + 1, ((latin b).take j).toArray ++ #[(b.toArray.getD j 0).toNat], _)) : Sem (ForInStep (Nat × Array Nat × _codecs.Faults))) = _
    have e3 : (latin b).take (j + 1) = (latin b).take j ++ [(b.toArray.getD j 0).toNat] := by
      rw [List.take_add_one]
      congr 1
      simp [latin, hj]
    rw [e3]
    simp
  · have e : 0 + [:b.toArray.size].size = b.length := by simp [Std.Legacy.Range.size]
    rw [e]
    show (pure (((latin b).take b.length).toArray, b.length) : Sem (Array Nat × Nat)) = _
    rw [List.take_of_length_le (by simp [latin])]
section
variable {b : List UInt8} {t : Tok}
theorem road_latin {id : String} : _codecs.decodeRoad id b.toArray (PySem.Str.ofString "latin1") none [] = (_codecs.runDecoder id _codecs.latin1Decoder none true b.toArray 0 [] >>= fun r => mkStr ⟨r.1⟩) := by kernel_rfl
theorem meets_latin (hb : b.length ≤ 1000) {t1 t2 : Tok} {d : PySem.Str} :
    Meets («_codecs.decode.text» ⟨[.bytes b.toArray t, .str (PySem.Str.ofString "latin1") t1, .none, .str d t2], []⟩) (fun _ R s => R (.ok (.ret (.str (S (latin b)) s.toks))) { s with toks := s.toks + 1 }) := by
  refine .of_wp fun prog w A R s h => ?_
  show wpAny _ _ (Bytes.bytesLike _ (.bytes b.toArray t) >>= fun r => _) _ _ s
  refine wpAny_bind (wpAny_of_eq KBd.like_eq ?_)
  refine wpAny_bind (wpAny_of_eq KBd.held_eq ?_)
  show wpAny _ _ (_codecs.decodeRoad _ b.toArray (PySem.Str.ofString "latin1") none [] >>= fun v => _) _ _ s
  rw [road_latin, latin_runs _ b hb]
  refine wpAny_bind (wpAny_bind (wpAny_pure ?_))
  exact wpAny_mkStr (wpAny_pure ⟨_, rfl, h⟩) (by show (S (latin b)).length ≤ _; rw [S_len, sizeLine_eq]; simp [latin]; omega)
theorem decode_entry {c : UInt8} {cs : List UInt8} {u : Tok} : «bytes.decode» ⟨[.bytes (c :: cs).toArray t, .str (PySem.Str.ofString "latin1") u], []⟩ = (mkStr (PySem.Str.ofString "utf-8") >>= fun _ => mkStr (PySem.Str.ofString "latin1") >>= fun e => mkStr (PySem.Str.ofString "bytes.decode") >>= fun d =>
    call (.builtin "_codecs.decode.text") [.bytes (c :: cs).toArray t, e, .none, d] >>= fun v => ret v) := by kernel_rfl
end
section
variable {prog : Program} {w : World} {base : Heap} {k : Nat}
theorem c_latin {b : List UInt8} (hb : b.length ≤ 1000) (hne : b ≠ []) : OpL prog w base k (fun vs => call (.builtin "bytes.decode") vs) [.bytes b.toArray, .str (PySem.Str.ofString "latin1")] (.str (S (latin b))) := Seal.mk fun A X s Q E vs g o r q => by
  obtain ⟨_, _, rfl, a, c⟩ := r.inv2
  obtain ⟨_, rfl⟩ := c.inv
  obtain ⟨_, rfl⟩ := a.inv
  cases b with
  | nil => exact absurd rfl hne
  | cons c cs =>
    refine call_meets (S := fun _ R s => ∀ t' k, R (.ok (.ret (.str (S (latin (c :: cs))) t'))) { s with toks := k }) FB.slot_bytes_decode (PySem.W.typeIs_bytes _ _ _) FB.entry_bytes_decode (args_bytes_decode_2 _ _) (.of_wp fun prog w A R s h => ?_) (fun t' k => q _ _ (.str _ _) (.tok s _))
    rw [decode_entry]
    refine wpAny_bind (wpAny_mkStr ?_ (by decide))
    refine wpAny_bind (wpAny_mkStr ?_ (by decide))
    refine wpAny_bind (wpAny_mkStr ?_ (by decide))
    exact wpAny_bind (call_function_meets KBd.kind_text KBd.plain_text KBd.entry_text (KBd.args_text _ _ _ _) (meets_latin hb) (wpAny_pure ⟨_, rfl, h _ _⟩))
end
end Mine
end
section
open PySem PySem.W PyProof.Rows PySem.Builtin.Str PySem.Builtin
namespace Mine
theorem wp_forIn {M : Model} {A : Around} {E : Value → Shared → Prop} {α β : Type} {f : α → β → Sem (ForInStep β)} {Q : β → Shared → Prop} (I : List α → β → Shared → Prop)
    (step : ∀ a r b s, I (a :: r) b s → wpAny M A (f a b) (fun st s' => match st with | .yield b' => I r b' s' | .done b' => Q b' s') E s) (fin : ∀ b s, I [] b s → Q b s) :
    ∀ (l : List α) (b : β) (s : Shared), I l b s → wpAny M A (forIn l b f) Q E s
  | [], b, s, h => by rw [List.forIn_nil]; exact wpAny_pure (fin b s h)
  | a :: r, b, s, h => by
    rw [List.forIn_cons]
    refine wpAny_bind (wpAny_mono (step a r b s h) (fun st s' h' => ?_) fun _ _ e => e)
    cases st with
    | yield b' => exact wp_forIn I step fin r b' s' h'
    | done b' => exact wpAny_pure h'
theorem wp_lookup {prog : Program} {w : World} {A : Around} {E : Value → Shared → Prop} {s : Shared} {a : Addr} {vs : List Value} {n c : Nat} {x : PySem.Str} {tk : Tok} {Q : Mapped → Shared → Prop} (e : s.heap.get? a = some (listObj vs n)) (hc : c < 2 ^ 62) (hx : vs[c]? = some (.str x tk))
    (h : Q (.text x) { s with toks := s.toks + 1 }) : wpAny (model prog w) A (tableLookup (.ref a) c) Q E s := by
  unfold tableLookup
  refine wpAny_bind (wpAny_attempt (wpAny_bind (wpAny_mkInt ?_)))
  refine wpAny_getItem_list (l := a) (items := vs.toArray) ⟨_, e, rfl, n, rfl⟩ (k := (c : Int)) (x := .str x tk) (by omega) (by omega) (by simpa using hx) ?_
  show wpAny _ _ (asInt? (.str x tk) >>= _) _ _ _
  have e1 : asInt? (.str x tk) = pure none := rfl
  rw [e1]
  refine wpAny_bind (wpAny_pure ?_)
  exact wpAny_bind (wpAny_pure (wpAny_pure h))
theorem foldl_cps (W : Nat → List Nat) : ∀ (done : List Nat) (acc : Array Nat), (done.map fun c => S (W c)).foldl (fun acc p => acc ++ p.cps) acc = acc ++ (done.flatMap W).toArray
  | [], acc => by simp
  | c :: r, acc => by
    rw [List.map_cons, List.foldl_cons, foldl_cps W r]
    simp
structure TrI (W : Nat → List Nat) (l : List Nat) (s0 : Shared) (r : List Nat) (b : List PySem.Str × Nat × Bool × List (Nat × Option Nat) × Bool) (s : Shared) : Prop where
  ks : Ks s0 s
  done : ∃ d, l = d ++ r ∧ b.1 = (d.map fun c => S (W c)).reverse ∧ b.2.1 ≤ 3 * d.length
  known : ∀ c o, b.2.2.2.1.lookup c = some o → ∃ d, o = some d ∧ W c = [d]
  drop : b.2.2.2.2 = false
theorem tr_put {W : Nat → List Nat} {l r : List Nat} {c : Nat} {s0 s s' : Shared} {p : List PySem.Str} {t t' : Nat} {f f' : Bool} {kn kn' : List (Nat × Option Nat)} (h : TrI W l s0 (c :: r) (p, t, f, kn, false) s) (k : Ks s s') (x : PySem.Str) (hx : x = S (W c)) (ht : t' ≤ t + 3)
    (hk : ∀ c o, kn'.lookup c = some o → ∃ d, o = some d ∧ W c = [d]) : TrI W l s0 r (x :: p, t', f', kn', false) s' := by
  obtain ⟨ks, ⟨d, e1, e2, e3⟩, kn, dr⟩ := h
  refine ⟨ks.then k, ⟨d ++ [c], by rw [e1, List.append_assoc]; rfl, ?_, ?_⟩, hk, rfl⟩
  · show x :: p = _
    have : p = (d.map fun c => S (W c)).reverse := e2
    rw [this, hx]; simp
  · have : t ≤ 3 * d.length := e3
    show t' ≤ _
    rw [List.length_append, List.length_singleton]; omega
theorem len_one {x : List Nat} (h : ((S x).length == 1 && (S x).cps.all fun x => decide (x < 128)) = true) : ∃ d, x = [d] := by
  simp only [Bool.and_eq_true, beq_iff_eq, S_len] at h
  match x, h.1 with
  | [d], _ => exact ⟨d, rfl⟩
section
variable {prog : Program} {w : World} {base : Heap} {k : Nat}
theorem wp_translate {A : Around} {E : Value → Shared → Prop} {Q : PySem.Fin → Shared → Prop} {s : Shared} {W : Nat → List Nat} {l : List Nat} {a : Addr} {t : Tok} {vs : List Value} {n : Nat} (e : s.heap.get? a = some (listObj vs n)) (hl : ∀ c ∈ l, c < 256) (hvs : ∀ c, c < 256 → ∃ tk, vs[c]? = some (.str (S (W c)) tk))
    (hW : ∀ c, (W c).length ≤ 3) (hlen : l.length ≤ 1000) (hne : l ≠ []) (h : ∀ t' s', Ks s s' → Q (.done (.ret (.str (S (l.flatMap W)) t'))) s') : wpAny (model prog w) A («str.translate» ⟨[.str (S l) t, .ref a], []⟩) Q E s := by
  have hz : sizeLine = 16777216 := sizeLine_eq
  have short : ∀ n, n ≤ 3000 → decide (tooLong n = true) = false := fun n hn => by
    unfold tooLong
    simp only [decide_eq_true_eq, decide_eq_false_iff_not]
    omega
  unfold «str.translate»
  have e1 : strOneArg "translate" ⟨[.str (S l) t, .ref a], []⟩ = pure (.str (S l) t, S l, .ref a) := by rfl
  rw [e1]
  rw [pure_bind]
  have hl0 : decide (((S l).length == 0) = true) = false := by
    rw [S_len]
    cases l with
    | nil => exact absurd rfl hne
    | cons => simp
  refine wpAny_ite_false hl0 ?_
  refine wpAny_bind (?_ : wpAny _ _ (forIn (S l).cps _ _) _ _ s)
  rw [List.forIn_toArray]
  refine wp_forIn (TrI W l s) (fun c r b s1 hI => ?_) (fun b s1 hI => ?_) l _ s ⟨.same s, ⟨[], rfl, rfl, Nat.zero_le _⟩, fun c o h => by simp at h, rfl⟩
  · obtain ⟨p, tt, f, kn, dr⟩ := b
    obtain rfl : dr = false := hI.drop
    obtain ⟨d, ed, _, etl⟩ := hI.done
    have hlen' : d.length + (r.length + 1) = l.length := by rw [ed]; simp
    have etl' : tt ≤ 3 * d.length := etl
    have hc : c < 256 := hl c (by rw [ed]; simp)
    obtain ⟨tk, hx⟩ := hvs c hc
    have e2 : ∀ s2, Ks s1 s2 → s2.heap.get? a = some (listObj vs n) := fun s2 k2 => (hI.ks.then k2).kp _ _ e
    have Kt : ∀ s2 t', Ks s1 s2 → Ks s1 { s2 with toks := t' } := fun s2 t' k2 => k2.then (.tok _ _)
    have look : ∀ (s2 : Shared) (Q : Mapped → Shared → Prop) (E : Value → Shared → Prop), Ks s1 s2 → Q (.text (S (W c))) { s2 with toks := s2.toks + 1 } → wpAny (model prog w) A (tableLookup (.ref a) c) Q E s2 :=
      fun s2 Q E k2 q => wp_lookup (e2 s2 k2) (by omega) hx q
    have wl := hW c
    refine wpAny_ite_false (short tt (by omega)) ?_
    refine wpAny_ite_split (fun hf => ?_) fun hf => ?_
    · dsimp only
      cases hk : kn.lookup c with
      | some o =>
        obtain ⟨d', rfl, hw⟩ := hI.known c o hk
        refine wpAny_bind (wpAny_pure ?_)
        refine wpAny_pure ?_
        exact tr_put hI (.same _) _ (by rw [hw]) (by omega) hI.known
      | none =>
        dsimp only
        refine wpAny_bind (look s1 _ _ (.same _) ?_)
        dsimp only
        by_cases h1 : ((S (W c)).length == 1 && (S (W c)).cps.all fun x => decide (x < 128)) = true
        · rw [if_pos h1]
          obtain ⟨d', hd'⟩ := len_one h1
          rw [hd']
          refine wpAny_bind (wpAny_pure ?_)
          refine wpAny_pure ?_
          refine tr_put hI (.tok _ _) _ (by rw [hd']; rfl) (by omega) fun c' o' ho => ?_
          by_cases ec : c' = c
          · subst ec
            simp [List.lookup_cons] at ho
            exact ⟨d', ho.symm, hd'⟩
          · have : (c' == c) = false := by simpa using ec
            rw [List.lookup_cons, this] at ho
            exact hI.known c' o' ho
        · rw [if_neg h1]
          refine wpAny_bind (wpAny_pure ?_)
          dsimp only
          refine wpAny_bind (wpAny_rule ?_)
          refine wpAny_ite_false rfl ?_
          refine wpAny_bind (look _ _ _ (.tok _ _) ?_)
          refine wpAny_pure ?_
          exact tr_put hI ((Ks.tok _ _).then (.tok _ _)) _ rfl (by rw [S_len]; omega) hI.known
    · refine wpAny_ite_false rfl ?_
      refine wpAny_bind (look _ _ _ (.same _) ?_)
      refine wpAny_pure ?_
      exact tr_put hI (.tok _ _) _ rfl (by show tt + (S (W c)).length ≤ _; rw [S_len]; omega) hI.known
  · obtain ⟨p, tt, f, kn, dr⟩ := b
    obtain ⟨d, ed, ep, etl⟩ := hI.done
    have ed' : l = d := by rw [ed, List.append_nil]
    subst ed'
    have etl' : tt ≤ 3 * l.length := etl
    refine wpAny_ite_false (short tt (by omega)) ?_
    have ep' : p = (l.map fun c => S (W c)).reverse := ep
    dsimp only
    rw [ep', List.reverse_reverse, foldl_cps]
    rw [Array.empty_append]
    have hsz : (S (l.flatMap W)).length ≤ sizeLine := by
      rw [S_len, List.length_flatMap]
      have : (l.map fun a => (W a).length).sum ≤ l.length * 3 := by
        generalize l = m
        induction m with
        | nil => simp
        | cons a m ih => have := hW a; simp only [List.map_cons, List.sum_cons, List.length_cons]; omega
      omega
    refine wpAny_bind (wpAny_mkStr (wpAny_pure ?_) hsz)
    exact h _ _ (hI.ks.then (.tok _ _))
theorem rep_get_str {X : Addr → Prop} {h : Heap} {vs : List Value} {ds : List D} {i : Nat} {x : PySem.Str} (r : RepAll w X h vs ds) (e : ds[i]? = some (.str x)) : ∃ t, vs[i]? = some (.str x t) := by
  obtain ⟨v, h1, h2⟩ := r.get e
  cases h2
  exact ⟨_, h1⟩
theorem c_translate {W : Nat → List Nat} {l : List Nat} {ds : List D} (hds : ∀ c, c < 256 → ds[c]? = some (.str (S (W c)))) (hl : ∀ c ∈ l, c < 256) (hW : ∀ c, (W c).length ≤ 3) (hlen : l.length ≤ 1000) (hne : l ≠ []) :
    OpL prog w base k (fun vs => call (.builtin "str.translate") vs) [.str (S l), .list ds] (.str (S (l.flatMap W))) := Seal.mk fun A X s Q E vs g o r q => by
  obtain ⟨_, _, rfl, a, b⟩ := r.inv2
  obtain ⟨t, rfl⟩ := a.inv
  obtain ⟨a, vs, n, rfl, nx, e, rs⟩ := b.inv
  refine call_meets (S := fun _ R s => s.heap.get? a = some (listObj vs n) ∧ ∀ t' s', Ks s s' → R (.ok (.ret (.str (S (l.flatMap W)) t'))) s') PySem.F.slot_str_translate (typeIs_str _ _ _) PySem.F.entry_str_translate (PySem.F.args_str_translate_2 _ _)
    (.of_wp fun prog w A R s h => ?_) ⟨e, fun t' s' ks => q _ s' (.str _ _) ks⟩
  exact wp_translate h.1 hl (fun c hc => rep_get_str rs (hds c hc)) hW hlen hne fun t' s' ks => ⟨_, rfl, h.2 t' s' ks⟩
end
/-! the header map -/
noncomputable def safe (n : Nat) : Bool := (48 ≤ n && n ≤ 57) || (65 ≤ n && n ≤ 90) || (97 ≤ n && n ≤ 122) || n == 33 || n == 42 || n == 43 || n == 45 || n == 47
noncomputable def writL (n : Nat) : List Nat := if n = 32 then [95] else if safe n = true then [n] else [61, hexC (n / 16), hexC (n % 16)]
noncomputable def strIs (x : List Nat) : Value → Bool
  | .str y _ => y.cps.toList == x
  | _ => false
theorem head_all : headItems.length = 256 ∧ ((List.range 256).all fun i => (headItems[i]?).any (strIs (writL i))) = true := by
  constructor <;> decide +kernel
theorem rep_of_strIs {P : World} {X : Addr → Prop} {h : Heap} {x : List Nat} {v : Value} (e : strIs x v = true) : Rep P X h v (.str (S x)) := by
  unfold strIs at e
  split at e
  · rename_i y t
    have : y = S x := by rw [← beq_iff_eq.mp e, S_list]
    rw [this]; exact .str _ _
  · cases e
theorem RepAll.of_get {P : World} {X : Addr → Prop} {h : Heap} : ∀ {vs : List Value} {ds : List D}, vs.length = ds.length → (∀ (i : Nat) v d, vs[i]? = some v → ds[i]? = some d → Rep P X h v d) → RepAll P X h vs ds
  | [], [], _, _ => .nil
  | [], _ :: _, e, _ => by simp at e
  | _ :: _, [], e, _ => by simp at e
  | v :: vs, d :: ds, e, f => .cons (f 0 v d rfl rfl) (RepAll.of_get (by simpa using e) fun i v d a b => f (i + 1) v d (by simpa using a) (by simpa using b))
theorem head_rep {P : World} {X : Addr → Prop} {h : Heap} : RepAll P X h headItems ((List.range 256).map fun i => D.str (S (writL i))) := by
  refine RepAll.of_get (by rw [head_all.1]; simp) fun i v d a b => ?_
  have hi : i < 256 := by
    rcases Nat.lt_or_ge i 256 with h | h
    · exact h
    · rw [List.getElem?_eq_none (by simp [h])] at b; cases b
  have := List.all_eq_true.mp head_all.2 i (List.mem_range.mpr hi)
  rw [a] at this
  simp only [Option.any_some] at this
  simp [hi] at b
  subst b
  exact rep_of_strIs this
theorem writL_len (n : Nat) : (writL n).length ≤ 3 := by unfold writL; split <;> (try split) <;> simp
end Mine
end
section
open PySem PySem.W PyProof.Rows PySem.Builtin.Str PySem.Builtin
namespace Mine
section
variable (prog : Program) (w : World) (base : Heap)
noncomputable def EvT (T U : Prop) (k : Nat) (env : Env) (V : List (Str × D)) (e : Expr) (d : D) : Prop :=
  Seal (∀ (A : Around) (X : Addr → Prop) (s : Shared) (Q : Value → Shared → Prop) (E : Value → Shared → Prop), GA k A → St w base env V X s → (T → 0 < s.toks) →
    (∀ v s', Rep w X s'.heap v d → Ks s s' → (U → 0 < s'.toks) → Q v s') → wpAny (model prog w) A (eval e env) Q E s)
noncomputable def TrT (T U : Prop) (k : Nat) (env : Env) (V : List (Str × D)) (e : Expr) (b : Bool) : Prop :=
  Seal (∀ (A : Around) (X : Addr → Prop) (s : Shared) (Q : Bool → Shared → Prop) (E : Value → Shared → Prop), GA k A → St w base env V X s → (T → 0 < s.toks) →
    (∀ s', Ks s s' → (U → 0 < s'.toks) → Q b s') → wpAny (model prog w) A (isTrue e env (eval e env)) Q E s)
end
section
variable {prog : Program} {w : World} {base : Heap} {k : Nat} {env : Env} {B : Str → Bool} {V V' O O' : List (Str × D)} {T U U' : Prop} {N : List (Str × D) → List (Str × D) → Prop} {R : D → Prop}
theorem Ev.toT {e : Expr} {d : D} (h : Ev prog w base k env V e d) : EvT prog w base T T k env V e d := Seal.mk fun A X s Q E g S tk q =>
  wpAny_mt (h.out A X s _ _ g S fun v s' r ks le => q v s' r ks fun z => Nat.lt_of_lt_of_le (tk z) le)
theorem EvT.all {e : Expr} {d : D} (h : EvT prog w base False U k env V e d) : Ev prog w base k env V e d := Seal.mk fun A X s Q E g S q => h.out A X s Q E g S False.elim fun v s' r ks _ => q v s' r ks
theorem EvT.str {x : Str} {n : Nat} {p : Pos} : EvT prog w base T U k env V (.Constant (.str x) n p) (.str x) :=
  Seal.mk fun _ _ s _ _ _ _ _ q => wpAny_Constant_str (q _ _ (.str x _) (.tok s _) fun _ => Nat.succ_pos _)
theorem EvT.int {i : Int} {n : Nat} {p : Pos} : EvT prog w base T U k env V (.Constant (.int i) n p) (.int i) :=
  Seal.mk fun _ _ s _ _ _ _ _ q => wpAny_Constant_int (q _ _ (.int i _) (.tok s _) fun _ => Nat.succ_pos _)
theorem EvT.binop {l r : Expr} {op : Operator} {p : Pos} {a b d : D} (hl : EvT prog w base T U' k env V l a) (hr : EvT prog w base U' U k env V r b) (ho : Op2 prog w base k (binaryOp op) a b d) :
    EvT prog w base T U k env V (.BinOp l op r p) d := Seal.mk fun A X s Q E g S tk q =>
  wpAny_BinOp (hl.out A X s _ E g S tk fun v s' rv kv tv => hr.out A X s' _ E g (S.keeps kv) tv fun u s'' ru ku tu =>
    wpAny_mt (ho.out A X s'' _ _ v u g (S.keeps (kv.then ku)).ok (rv.kp ku.kp) ru fun x t rx kx le => q x t rx ((kv.then ku).then kx) fun z => Nat.lt_of_lt_of_le (tu z) le))
theorem EvT.sub {value slice : Expr} {p : Pos} {a b d : D} (hv : EvT prog w base T U' k env V value a) (hi : EvT prog w base U' U k env V slice b) (ho : Op2 prog w base k getItem a b d)
    (ht : a.hasItems = true := by rfl) (hs : ∀ o i, ∃ ops, subscripted slice false o i = operate ops (getItem o i) := by intro _ _; exact ⟨_, rfl⟩) :
    EvT prog w base T U k env V (.Subscript value slice p) d := Seal.mk fun A X s Q E g S tk q =>
  Subscript_ (hv.out A X s _ E g S tk fun v s' rv kv tv => hi.out A X s' _ E g (S.keeps kv) tv fun i s'' ri ki ti => by
    obtain ⟨T, id, hT, hl⟩ := (rv.kp ki.kp).getter ht
    obtain ⟨ops, hops⟩ := hs v i
    exact tail_any hT hl (wpAny_mt (ho.out A X s'' _ _ v i g (S.keeps (kv.then ki)).ok (rv.kp ki.kp) ri fun x t rx kx le => q x t rx ((kv.then ki).then kx) fun z => Nat.lt_of_lt_of_le (ti z) le)) hops)
/-- the call of a def of one argument -/
theorem EvT.call1 {x : Str} {a : Addr} {fd : FuncData} {e : Expr} {c d : D} {p pos : Pos} (h : GlobIs prog w base x (.ref a)) (hk : env.kindOf x = some .globalImplicit) (hf : FnIs base a fd) (ha : EvT prog w base T U k env V e c)
    (ho : OpLT U prog w base k (fun vs => call (.ref a) vs) [c] d) (he : starEach [e] env = [(false, eval e env)] := by rfl) :
    EvT prog w base T U k env V (.Call (.Name x p) [e] [] pos) d := Seal.mk fun A X s Q E g S tk q => by
  obtain ⟨o, h1, h2⟩ := hf
  refine wpAny_mt (Call_Name rfl (wpAny_mt (h.out A env s _ _ p S.kind S.glob S.blt hk S.kept fun le0 => callWith_def h2 ?_ he)))
  rw [he]
  refine Calls.spliced_cons (ha.out A X s _ _ g S tk fun v s' rv kv tv => Calls.spliced_nil ?_)
  refine ⟨(S.keeps kv).kept _ _ h1, ?_⟩
  exact wpAny_mt (ho.out A X s' _ _ [v] g (S.keeps kv).ok (.cons rv .nil) tv fun u t ru ku le _ => q u t ru (kv.then ku) fun z => Nat.lt_of_lt_of_le (tv z) le)
theorem TrT.compare {l r : Expr} {op : CmpOp} {p : Pos} {a b : D} {c : Bool} (hl : EvT prog w base T U' k env V l a) (hr : EvT prog w base U' U k env V r b) (ho : Op2 prog w base k (compareOp op) a b (.bool c))
    (hm : behindInMarks op r = false := by with_unfolding_all rfl) : TrT prog w base T U k env V (.Compare l [op] [r] p) c := Seal.mk fun A X s Q E g S tk q =>
  wpAny_isTrue_Compare1 (hl.out A X s _ E g S tk fun v s' rv kv tv => hr.out A X s' _ E g (S.keeps kv) tv fun u s'' ru ku tu =>
    wpAny_mt (ho.out A X s'' _ _ v u g (S.keeps (kv.then ku)).ok (rv.kp ku.kp) ru fun x t rx kx le => by
      obtain rfl := rx.inv
      exact wpAny_truthy_bool (q t ((kv.then ku).then kx) fun z => Nat.lt_of_lt_of_le (tu z) le))) hm
theorem ExT.ifF {t : Expr} {body orelse rest : List Stmt} {p : Pos} (h : TrT prog w base T U k env V t false) (hb : orelse = []) (hr : ExT prog w base U k env B V O rest N R) :
    ExT prog w base T k env B V O (.If t body orelse p :: rest) N R := Seal.mk fun A X Y s Q E g F tk q qr => by
  subst hb
  refine wpAny_execs_cons (wpAny_If (h.out A X s _ E g F.st tk fun s1 k1 t1 => ?_))
  rw [if_neg Bool.false_ne_true]
  refine wpAny_execs_nil ?_
  exact hr.out A X Y s1 Q E g (F.ks k1) t1 (fun V' O' X' Y' s2 n F' t => q V' O' X' Y' s2 n F' (t.kt k1)) fun d v X' Y' s2 rd rv t kp => qr d v X' Y' s2 rd rv (t.kt k1) kp
theorem ExT.all {ss : List Stmt} (h : ExT prog w base False k env B V O ss N R) : Ex prog w base k env B V O ss N R := Seal.mk fun A X Y s Q E g F => h.out A X Y s Q E g F False.elim
end
end Mine
end
section
open PySem PySem.W PyProof.Rows PySem.Builtin.Str PySem.Builtin
namespace Mine
/-! replace of one sign by another -/
noncomputable def swapC (c d : Nat) (l : List Nat) : List Nat := l.map fun x => if x = c then d else x
theorem joinL_spl (c d : Nat) : ∀ (l : List Nat) (n : Nat), l.length ≤ n → joinL d (spl c n l) = swapC c d l
  | [], n, _ => by cases n <;> rfl
  | a :: r, 0, h => by simp at h
  | a :: r, n + 1, h => by
    have hr : r.length ≤ n := by simpa using h
    by_cases e : a = c
    · have : spl c (n + 1) (a :: r) = [] :: spl c n r := by rw [spl, if_pos e]
      rw [this]
      obtain ⟨x, t, ex⟩ := spl_ne c n r
      have ih := joinL_spl c d r n hr
      rw [ex] at ih ⊢
      show [] ++ d :: joinL d (x :: t) = _
      rw [ih]
      simp [swapC, e]
    · obtain ⟨x, t, ex⟩ := spl_ne c (n + 1) r
      have : spl c (n + 1) (a :: r) = (a :: x) :: t := by rw [spl, if_neg e, ex]
      rw [this]
      have ih := joinL_spl c d r (n + 1) (by omega)
      rw [ex] at ih
      have e2 : joinL d ((a :: x) :: t) = a :: joinL d (x :: t) := by cases t <;> rfl
      rw [e2, ih]
      simp [swapC, e]
theorem replace_S {c d : Nat} (hc : c < 256) (l : List Nat) : Txt.replace (S l) ⟨#[c]⟩ ⟨#[d]⟩ = S (swapC c d l) := by
  rw [StrLaws.replace_one, split_S hc, join_S, joinL_spl c d l _ (Nat.le_succ _)]
section
variable {prog : Program} {w : World} {base : Heap} {k : Nat} {env : Env} {V : List (Str × D)} {U : Prop}
theorem EvT.replace {x a b : Str} {l : List Nat} {c d n1 n2 : Nat} {p p1 p2 apos pos : Pos} (hv : V.lookup x = some (.str (S l))) (ha : a = ⟨#[c]⟩) (hb : b = ⟨#[d]⟩) (hcd : c ≠ d) (hc : c < 256) (hl : l.length ≤ 1000)
    (hbase : attributeBase (.Name x p) "replace" env (eval (.Name x p) env) = eval (.Name x p) env := by rfl) (hline : (apos.endLine == pos.line) = true := by rfl) (hd : (x == ("__debug__" : Str)) = false := by decide) :
    EvT prog w base True U k env V (.Call (.Attribute (.Name x p) "replace" apos) [.Constant (.str a) n1 p1, .Constant (.str b) n2 p2] [] pos) (.str (S (swapC c d l))) := Seal.mk fun A X s Q E g St tk q => by
  have tk := tk trivial
  subst ha hb
  refine wpAny_mt (wpAny_Call_method hbase (by rfl) hline PySem.F.plainAttrs_str PySem.F.slot_str_replace PySem.F.type_str_replace ?_)
  refine wpAny_mt ((Ev.name hv hd).out A X s _ _ g St fun v s1 rv k1 le1 => ?_)
  obtain ⟨t, rfl⟩ := rv.inv
  refine ⟨typeIs_str _ _ _, (fun _ e => nomatch e), callWith_method1 ?_ (by rfl) (by rfl)⟩
  refine Calls.spliced_cons (wpAny_Constant_str (k := n1) (pos := p1) ?_)
  refine Calls.spliced_cons (wpAny_Constant_str (k := n2) (pos := p2) ?_)
  refine Calls.spliced_nil ?_
  refine SC.replace (by show (s1.toks : Nat) ≠ 0; omega) (by show (s1.toks + 1 : Nat) ≠ 0; omega) (by show (s1.toks : Nat) ≠ s1.toks + 1; omega) (by simpa using hcd) (by rw [S_len]; show l.length + (l.length + 1) * 1 ≤ _; omega) fun t' k le0 => ?_
  rw [replace_S hc]
  exact q _ _ (.str _ _) (k1.then (.tok _ _)) fun _ => Nat.lt_of_lt_of_le tk le0
end
end Mine
end
section
open PySem PySem.W PyProof.Rows PySem.Builtin.Str PySem.Builtin
namespace Mine
open PySem.Sre
/-! the pattern '=[a-fA-F0-9]{2}' at work -/
noncomputable def codeA : Array Nat := sreCode.toArray
noncomputable def hexSet (c : Nat) : Bool := (48 ≤ c && c ≤ 57) || (65 ≤ c && c ≤ 70) || (97 ≤ c && c ≤ 102)
theorem op_14 : Sre.ops[14]? = some Op.INFO := rfl
theorem op_16 : Sre.ops[16]? = some Op.LITERAL := rfl
theorem op_24 : Sre.ops[24]? = some Op.REPEAT_ONE := rfl
theorem op_13 : Sre.ops[13]? = some Op.IN := rfl
theorem op_9 : Sre.ops[9]? = some Op.CHARSET := rfl
theorem op_0 : Sre.ops[0]? = some Op.FAILURE := rfl
theorem op_1 : Sre.ops[1]? = some Op.SUCCESS := rfl
theorem set_all : ((List.range 256).all fun c => match Sre.inSet codeA c 29 17 true {} with | .ok (b, _) => b == hexSet c | .error _ => false) = true := by decide +kernel
theorem set_is (c : Nat) (hc : c < 256) (seen : Sre.Seen) : ∃ seen', Sre.inSet codeA c codeA.size 17 true seen = .ok (hexSet c, seen') := by
  have h := List.all_eq_true.mp set_all c (List.mem_range.mpr hc)
  have e1 : ∀ k, codeA.getD (17 + k) 0 = codeA.getD (17 + k) 0 := fun _ => rfl
  have key : ∀ seen : Sre.Seen, Sre.inSet codeA c codeA.size 17 true seen = if (c < 256 && (codeA.getD (17 + (1 + c / 32)) 0).testBit (c % 32)) = true then .ok (true, seen.add 9) else .ok (false, (seen.add 9).add 0) := fun seen => by
    kernel_rfl
  rw [key seen]
  have k0 := key {}
  have hs : codeA.size = 29 := rfl
  rw [hs] at k0
  rw [k0] at h
  split at h
  · rename_i hh
    split at hh
    · rename_i h3; rw [if_pos h3]; injection hh with hh; injection hh with hh _; subst hh; exact ⟨_, by rw [← beq_iff_eq.mp h]⟩
    · rename_i h3; rw [if_neg h3]; injection hh with hh; injection hh with hh _; subst hh; exact ⟨_, by rw [← beq_iff_eq.mp h]⟩
  · cases h
/-- a state of the machine -/
noncomputable def mk (T : Array Nat) (start pc pos handed : Nat) (om : Bool) (frames : List Sre.Frame) (weight : Nat) (ans : Option Bool) (seen : Sre.Seen) : M :=
  { code := codeA, text := T, lim := T.size, start, lastStart := T.size, pc, pos, handed, outermost := om, marks := #[], frames, weight, answer := ans, seen }
noncomputable def fr0 (p : Nat) (o : Bool) : Sre.Frame := { wait := .nextStart, pc := 9, pos := p, outermost := o }
noncomputable def at0 (T : Array Nat) (p : Nat) (o : Bool) (seen : Sre.Seen) : M := mk T p 9 p p o [fr0 p o] 1 none seen
variable {T : Array Nat} {p : Nat} {o : Bool} {seen : Sre.Seen}
theorem runFor_succ (n : Nat) (m : M) : M.runFor (n + 1) m = if m.outcome.isSome = true then m else M.runFor n m.step := rfl
theorem runFor_out : ∀ (n : Nat) (m : M), m.outcome.isSome = true → M.runFor n m = m
  | 0, _, _ => rfl
  | n + 1, m, h => by rw [runFor_succ, if_pos h]
theorem runFor_add : ∀ (a b : Nat) (m : M), M.runFor (a + b) m = M.runFor b (M.runFor a m)
  | 0, b, m => by rw [Nat.zero_add]; rfl
  | a + 1, b, m => by
    rw [show a + 1 + b = (a + b) + 1 by omega, runFor_succ, runFor_succ]
    by_cases h : m.outcome.isSome = true
    · rw [if_pos h, if_pos h, runFor_out b m h]
    · rw [if_neg h, if_neg h]
      exact runFor_add a b _
theorem runFor_step {m m' : M} {n : Nat} (ho : m.outcome = none) (h : m.step = m') : M.runFor (n + 1) m = M.runFor n m' := by
  rw [runFor_succ, ho, h]; rfl
theorem step_exec {m : M} (ho : m.outcome = none) (ha : m.answer = none) (hp : m.pc < m.code.size) : m.step = m.exec := by
  unfold M.step
  rw [ho, ha]
  simp [hp]
theorem exec_lit {m : M} (h : Sre.ops[m.word 0]? = some Op.LITERAL) : m.exec = if m.pos ≥ m.lim then ({ m with seen := m.seen.add (m.word 0) } : M).say false else
    match Sre.accepts m.code m.pc (m.text.getD m.pos 0) (m.seen.add (m.word 0)) with
    | .error why => ({ m with seen := m.seen.add (m.word 0) } : M).stick why
    | .ok (false, seen) => ({ m with seen } : M).say false
    | .ok (true, seen) => { m with seen, pc := m.pc + itemWidth m.code m.pc, pos := m.pos + 1 } := by
  unfold M.exec
  rw [h]
  rfl
theorem acc_lit (c : Nat) (seen : Sre.Seen) : Sre.accepts codeA 9 c seen = .ok (c == 61, seen) := by
  unfold Sre.accepts
  simp only [show codeA.getD 9 0 = 16 from rfl, op_16, show codeA.getD (9 + 1) 0 = 61 from rfl]
theorem step_resume {m : M} {yes : Bool} {f : Sre.Frame} {rest : List Sre.Frame} (ho : m.outcome = none) (ha : m.answer = some yes) (hf : m.frames = f :: rest) :
    m.step = M.resume { m with answer := none, frames := rest, weight := m.weight - (1 + f.kept.marks.size), pc := f.pc, pos := f.pos, outermost := f.outermost } f yes := by
  unfold M.step
  rw [ho, ha, hf]
  rfl
/-- the sign is no equals sign -/
theorem step_other (hp : p < T.size) (hc : T.getD p 0 ≠ 61) : (at0 T p o seen).step = mk T p 9 p p o [fr0 p o] 1 (some false) (seen.add 16) := by
  rw [step_exec rfl rfl (by show (9 : Nat) < 29; decide), exec_lit rfl]
  rw [if_neg (by show ¬ (p ≥ T.size); omega)]
  show (match Sre.accepts codeA 9 (T.getD p 0) (seen.add 16) with | .error why => _ | .ok (false, seen) => _ | .ok (true, seen) => _) = _
  rw [acc_lit, show (T.getD p 0 == 61) = false by simpa using hc]
  rfl
theorem step_end (hp : p ≥ T.size) : (at0 T p o seen).step = mk T p 9 p p o [fr0 p o] 1 (some false) (seen.add 16) := by
  rw [step_exec rfl rfl (by show (9 : Nat) < 29; decide), exec_lit rfl]
  rw [if_pos (by show p ≥ T.size; exact hp)]
  rfl
theorem step_lit (hp : p < T.size) (hc : T.getD p 0 = 61) : (at0 T p o seen).step = mk T p 11 (p + 1) p o [fr0 p o] 1 none (seen.add 16) := by
  rw [step_exec rfl rfl (by show (9 : Nat) < 29; decide), exec_lit rfl]
  rw [if_neg (by show ¬ (p ≥ T.size); omega)]
  show (match Sre.accepts codeA 9 (T.getD p 0) (seen.add 16) with | .error why => _ | .ok (false, seen) => _ | .ok (true, seen) => _) = _
  rw [acc_lit, show (T.getD p 0 == 61) = true by simpa using hc]
  rfl
/-- no match from p on: on to the next place, or the end -/
theorem step_next (hp : p < T.size) (q c h : Nat) (b : Bool) : (mk T p c q h b [fr0 p o] 1 (some false) seen).step = at0 T (p + 1) false seen := by
  rw [step_resume rfl rfl rfl]
  unfold M.resume
  show (if false = true then _ else if p < T.size then _ else _) = _
  rw [if_neg Bool.false_ne_true, if_pos hp]
  rfl
theorem step_last (hp : ¬ p < T.size) (q c h : Nat) (b : Bool) : (mk T p c q h b [fr0 p o] 1 (some false) seen).step = mk T p 9 p h o [] 0 (some false) seen := by
  rw [step_resume rfl rfl rfl]
  unfold M.resume
  show (if false = true then _ else if p < T.size then _ else _) = _
  rw [if_neg Bool.false_ne_true, if_neg hp]
  rfl
theorem step_stop (p c q h : Nat) (b : Bool) : ∃ m, (mk T p c q h b [] 0 (some false) seen).step = m ∧ m.outcome = some .failed := ⟨_, rfl, rfl⟩
/-- behind the equals sign -/
theorem run_two (q : Nat) (seen : Sre.Seen) (h : q + 2 ≤ T.size) (hT : ∀ c ∈ T, c < 256) : ∃ seen' n, Sre.run codeA T 15 2 q 0 seen = .ok (n, seen') ∧ (n = 2 ↔ hexSet (T.getD q 0) = true ∧ hexSet (T.getD (q + 1) 0) = true) ∧ n ≤ 2 := by
  have acc : ∀ (c : Nat) (seen : Sre.Seen), c < 256 → ∃ seen', Sre.accepts codeA 15 c seen = .ok (hexSet c, seen') := fun c seen hc => by
    obtain ⟨s', e⟩ := set_is c hc seen
    refine ⟨s', ?_⟩
    unfold Sre.accepts
    simp only [show codeA.getD 15 0 = 13 from rfl, op_13]
    exact e
  have lt : ∀ i, i < T.size → T.getD i 0 < 256 := fun i hi => by
    rw [Array.getD_eq_getD_getElem?, Array.getElem?_eq_getElem hi]
    exact hT _ (Array.getElem_mem hi)
  obtain ⟨s1, e1⟩ := acc (T.getD q 0) seen (lt q (by omega))
  unfold Sre.run
  rw [e1]
  cases h1 : hexSet (T.getD q 0) with
  | false => exact ⟨s1, 0, rfl, by simp, by omega⟩
  | true =>
    obtain ⟨s2, e2⟩ := acc (T.getD (q + 1) 0) s1 (lt (q + 1) (by omega))
    show ∃ seen' n, Sre.run codeA T 15 1 (q + 1) 1 s1 = .ok (n, seen') ∧ _
    unfold Sre.run
    rw [e2]
    cases h2 : hexSet (T.getD (q + 1) 0) with
    | false => exact ⟨s2, 1, rfl, by simp, by omega⟩
    | true => exact ⟨s2, 2, rfl, by simp, by omega⟩
theorem exec_rep {m : M} (h : Sre.ops[m.word 0]? = some Op.REPEAT_ONE) : m.exec = if (m.word 2 : Int) > (m.lim : Int) - m.pos then ({ m with seen := m.seen.add (m.word 0) } : M).say false else
    match Sre.run m.code m.text (m.pc + 4) (min (m.word 3) ((m.lim : Int) - m.pos).toNat) m.pos 0 ((m.seen.add (m.word 0)).add (m.word 4)) with
    | .error why => ({ m with seen := m.seen.add (m.word 0) } : M).stick why
    | .ok (n, seen) => if n < m.word 2 then ({ m with seen } : M).say false else
      M.afterRun { m with seen, pos := m.pos + n } .giveBack n (M.keep { m with seen, pos := m.pos + n } m.inner.isSome) := by
  unfold M.exec
  rw [h]
  rfl
theorem exec_suc {m : M} (h : Sre.ops[m.word 0]? = some Op.SUCCESS) : m.exec = if (m.outermost && ((m.wholeText && m.pos != m.lim) || (m.mustAdvance && m.pos == m.start))) = true then ({ m with seen := m.seen.add (m.word 0) } : M).say false
    else ({ m with seen := m.seen.add (m.word 0), handed := m.pos } : M).say true := by
  unfold M.exec
  rw [h]
theorem exec_rep' {m : M} {n : Nat} {s' : Sre.Seen} (h : Sre.ops[m.word 0]? = some Op.REPEAT_ONE) (hroom : ¬ (m.word 2 : Int) > (m.lim : Int) - m.pos)
    (hrun : Sre.run m.code m.text (m.pc + 4) (min (m.word 3) ((m.lim : Int) - m.pos).toNat) m.pos 0 ((m.seen.add (m.word 0)).add (m.word 4)) = .ok (n, s')) : m.exec = if n < m.word 2 then ({ m with seen := s' } : M).say false else
      M.afterRun { m with seen := s', pos := m.pos + n } .giveBack n (M.keep { m with seen := s', pos := m.pos + n } m.inner.isSome) := by
  rw [exec_rep h, if_neg hroom, hrun]
noncomputable def hit (T : Array Nat) (p : Nat) : Bool := decide (p + 2 < T.size) && T.getD p 0 == 61 && hexSet (T.getD (p + 1) 0) && hexSet (T.getD (p + 2) 0)
noncomputable def ansOk (T : Array Nat) (r : Option Nat) (m : M) : Prop := match r with
  | some q => m.outcome = some .matched ∧ m.start = q ∧ m.handed = q + 3 ∧ m.lastmark = -1 ∧ m.lastindex = -1 ∧ m.marks = #[]
  | none => m.outcome = some .failed
noncomputable def nextM (T : Array Nat) : Nat → Nat → Option Nat
  | 0, _ => none
  | k + 1, p => if hit T p = true then some p else nextM T k (p + 1)
theorem step_rep_no (hc : ¬ hit T p = true) (h61 : T.getD p 0 = 61) (hT : ∀ c ∈ T, c < 256) : ∃ seen', (mk T p 11 (p + 1) p o [fr0 p o] 1 none seen).step = mk T p 11 (p + 1) p o [fr0 p o] 1 (some false) seen' := by
  by_cases hr : p + 2 < T.size
  · obtain ⟨s', n, e, h2, hle⟩ := run_two (T := T) (p + 1) (((seen.add 24)).add 13) (by omega) hT
    have em : min 2 ((T.size : Int) - ((p + 1 : Nat) : Int)).toNat = 2 := by omega
    have hn : n < 2 := by
      rcases Nat.lt_or_ge n 2 with h | h
      · exact h
      · exfalso
        have : n = 2 := by omega
        obtain ⟨a, b⟩ := h2.mp this
        exact hc (by unfold hit; rw [decide_eq_true hr, h61, a, show T.getD (p + 2) 0 = T.getD (p + 1 + 1) 0 from rfl, b]; rfl)
    refine ⟨s', ?_⟩
    rw [step_exec rfl rfl (by show (11 : Nat) < 29; decide), exec_rep' (n := n) (s' := s') rfl (by show ¬ ((2 : Int) > (T.size : Int) - ((p + 1 : Nat) : Int)); omega)
      (by show Sre.run codeA T 15 (min 2 ((T.size : Int) - ((p + 1 : Nat) : Int)).toNat) (p + 1) 0 _ = _; rw [em]; exact e), if_pos (by show n < 2; exact hn)]
    rfl
  · refine ⟨seen.add 24, ?_⟩
    rw [step_exec rfl rfl (by show (11 : Nat) < 29; decide), exec_rep rfl, if_pos (by show ((2 : Int) > (T.size : Int) - ((p + 1 : Nat) : Int)); omega)]
    rfl
theorem step_rep_yes (hh : hit T p = true) (hT : ∀ c ∈ T, c < 256) : ∃ seen' f, f.wait = .giveBack ∧ f.kept.marks.size = 0 ∧ (mk T p 11 (p + 1) p o [fr0 p o] 1 none seen).step = mk T p 28 (p + 3) (p + 3) o [f, fr0 p o] 2 none seen' := by
  unfold hit at hh
  simp only [Bool.and_eq_true, decide_eq_true_eq, beq_iff_eq] at hh
  obtain ⟨⟨⟨hr, h61⟩, a⟩, b⟩ := hh
  obtain ⟨s', n, e, h2, hle⟩ := run_two (T := T) (p + 1) (((seen.add 24)).add 13) (by omega) hT
  have hn : n = 2 := h2.mpr ⟨a, b⟩
  subst hn
  have em : min 2 ((T.size : Int) - ((p + 1 : Nat) : Int)).toNat = 2 := by omega
  rw [step_exec rfl rfl (by show (11 : Nat) < 29; decide), exec_rep' (n := 2) (s' := s') rfl (by show ¬ ((2 : Int) > (T.size : Int) - ((p + 1 : Nat) : Int)); omega)
      (by show Sre.run codeA T 15 (min 2 ((T.size : Int) - ((p + 1 : Nat) : Int)).toNat) (p + 1) 0 _ = _; rw [em]; exact e), if_neg (by show ¬ (2 : Nat) < 2; decide)]
  exact ⟨_, _, rfl, rfl, rfl⟩
theorem step_suc (f : Sre.Frame) : (mk T p 28 (p + 3) (p + 3) o [f, fr0 p o] 2 none seen).step = mk T p 28 (p + 3) (p + 3) o [f, fr0 p o] 2 (some true) (seen.add 1) := by
  rw [step_exec rfl rfl (by show (28 : Nat) < 29; decide), exec_suc rfl]
  rw [if_neg (by show ¬ ((o && ((false && _) || (false && _))) = true); simp)]
  rfl
theorem step_give {f : Sre.Frame} (hf : f.wait = .giveBack) (hk : f.kept.marks.size = 0) (c q : Nat) (b : Bool) : ∃ pc' q' b', (mk T p c q (p + 3) b [f, fr0 p o] 2 (some true) seen).step = mk T p pc' q' (p + 3) b' [fr0 p o] 1 (some true) seen := by
  refine ⟨f.pc, f.pos, f.outermost, ?_⟩
  rw [step_resume rfl rfl rfl, hk]
  unfold M.resume
  rw [hf]
  rfl
theorem step_start (c q : Nat) (b : Bool) : (mk T p c q (p + 3) b [fr0 p o] 1 (some true) seen).step = mk T p 9 p (p + 3) o [] 0 (some true) seen := by
  rw [step_resume rfl rfl rfl]
  rfl
theorem search_runs (hT : ∀ c ∈ T, c < 256) : ∀ (k p : Nat) (o : Bool) (seen : Sre.Seen), p + k = T.size → ∃ N, N ≤ 5 * k + 5 ∧ ∃ m, M.runFor N (at0 T p o seen) = m ∧ ansOk T (nextM T k p) m
  | 0, p, o, seen, hk => by
    refine ⟨3, by omega, _, rfl, ?_⟩
    rw [runFor_step rfl (step_end (by omega)), runFor_step rfl (step_last (by omega) _ _ _ _)]
    rfl
  | k + 1, p, o, seen, hk => by
    have hp : p < T.size := by omega
    by_cases h61 : T.getD p 0 = 61
    · by_cases hh : hit T p = true
      · have e : nextM T (k + 1) p = some p := by unfold nextM; rw [if_pos hh]
        obtain ⟨s1, f, hf, hkm, e1⟩ := step_rep_yes (o := o) (seen := seen.add 16) hh hT
        obtain ⟨pc', q', b', e2⟩ := step_give (T := T) (p := p) (o := o) (seen := s1.add 1) hf hkm 28 (p + 3) o
        refine ⟨6, by omega, _, rfl, ?_⟩
        rw [e, runFor_step rfl (step_lit hp h61), runFor_step rfl e1, runFor_step rfl (step_suc f), runFor_step rfl e2, runFor_step rfl (step_start _ _ _)]
        exact ⟨rfl, rfl, rfl, rfl, rfl, rfl⟩
      · have e : nextM T (k + 1) p = nextM T k (p + 1) := by rw [nextM, if_neg hh]
        obtain ⟨s1, e1⟩ := step_rep_no (o := o) (seen := seen.add 16) hh h61 hT
        obtain ⟨N, hN, m, em, hm⟩ := search_runs hT k (p + 1) false s1 (by omega)
        refine ⟨N + 3, by omega, m, ?_, by rw [e]; exact hm⟩
        rw [runFor_step (n := N + 2) rfl (step_lit hp h61), runFor_step (n := N + 1) rfl e1, runFor_step (n := N) rfl (step_next hp _ _ _ _), em]
    · have hh : ¬ hit T p = true := fun h => by
        unfold hit at h
        simp only [Bool.and_eq_true, beq_iff_eq] at h
        exact h61 h.1.1.2
      have e : nextM T (k + 1) p = nextM T k (p + 1) := by rw [nextM, if_neg hh]
      obtain ⟨N, hN, m, em, hm⟩ := search_runs hT k (p + 1) false (seen.add 16) (by omega)
      refine ⟨N + 2, by omega, m, ?_, by rw [e]; exact hm⟩
      rw [runFor_step (n := N + 1) rfl (step_other hp h61), runFor_step (n := N) rfl (step_next hp _ _ _ _), em]
end Mine
end
section
open PySem PySem.W PyProof.Rows PySem.Builtin.Str PySem.Builtin PySem.Builtin.Re
namespace Mine
open PySem.Sre
/-! what the sub makes of a text -/
noncomputable def hv (c : Nat) : Nat := if c ≤ 57 then c - 48 else if c ≤ 70 then c - 55 else c - 87
noncomputable def hexP : List Nat → Bool
  | a :: b :: _ => hexSet a && hexSet b
  | _ => false
noncomputable def hexV : List Nat → Nat
  | a :: b :: _ => 16 * hv a + hv b
  | _ => 0
noncomputable def decF : Nat → List Nat → List Nat
  | 0, _ => []
  | _ + 1, [] => []
  | n + 1, c :: r => if (c == 61 && hexP r) = true then hexV r :: decF n (r.drop 2) else c :: decF n r
theorem decF_more : ∀ (n m : Nat) (l : List Nat), l.length ≤ n → l.length ≤ m → decF n l = decF m l
  | 0, 0, _, _, _ => rfl
  | 0, m + 1, l, h, _ => by
    have : l = [] := List.eq_nil_of_length_eq_zero (by omega)
    subst this; rfl
  | n + 1, 0, l, _, h => by
    have : l = [] := List.eq_nil_of_length_eq_zero (by omega)
    subst this; rfl
  | n + 1, m + 1, [], _, _ => rfl
  | n + 1, m + 1, c :: r, h1, h2 => by
    have h1' : r.length ≤ n := by simpa using h1
    have h2' : r.length ≤ m := by simpa using h2
    unfold decF
    rw [decF_more n m r h1' h2', decF_more n m (r.drop 2) (by simp; omega) (by simp; omega)]
noncomputable def decL (l : List Nat) : List Nat := decF l.length l
theorem decL_nil : decL [] = [] := rfl
theorem decL_cons (c : Nat) (r : List Nat) : decL (c :: r) = if (c == 61 && hexP r) = true then hexV r :: decL (r.drop 2) else c :: decL r := by
  unfold decL
  show decF (r.length + 1) (c :: r) = _
  rw [decF, decF_more r.length (r.drop 2).length (r.drop 2) (by simp) (Nat.le_refl _)]
theorem drop_get {T : Array Nat} {p : Nat} (hp : p < T.size) : T.toList.drop p = T.getD p 0 :: T.toList.drop (p + 1) := by
  have h : p < T.toList.length := by simpa using hp
  rw [List.drop_eq_getElem_cons h]
  congr 1
  simp [Array.getD, hp]
theorem hit_is (T : Array Nat) (p : Nat) (hp : p < T.size) : hit T p = (T.getD p 0 == 61 && hexP (T.toList.drop (p + 1))) := by
  unfold hit
  by_cases h : p + 2 < T.size
  · rw [drop_get (T := T) (p := p + 1) (by omega), drop_get (T := T) (p := p + 1 + 1) (by omega)]
    simp [h, hexP, Bool.and_assoc]
  · have : hexP (T.toList.drop (p + 1)) = false := by
      have hl : (T.toList.drop (p + 1)).length ≤ 1 := by simp; omega
      match T.toList.drop (p + 1), hl with
      | [], _ => rfl
      | [_], _ => rfl
    rw [this]; simp [h]
theorem next_dec (T : Array Nat) : ∀ (k p : Nat), p + k = T.size → match nextM T k p with
    | some q => p ≤ q ∧ hit T q = true ∧ decL (T.toList.drop p) = (T.toList.drop p).take (q - p) ++ hexV (T.toList.drop (q + 1)) :: decL (T.toList.drop (q + 3))
    | none => decL (T.toList.drop p) = T.toList.drop p
  | 0, p, h => by
    have : T.toList.drop p = [] := List.drop_eq_nil_of_le (by simp; omega)
    show decL (T.toList.drop p) = _
    rw [this]; rfl
  | k + 1, p, h => by
    have hp : p < T.size := by omega
    have hi := hit_is T p hp
    unfold nextM
    by_cases hh : hit T p = true
    · rw [if_pos hh]
      refine ⟨Nat.le_refl _, hh, ?_⟩
      rw [Nat.sub_self, List.take_zero, List.nil_append, drop_get hp, decL_cons, if_pos (by rw [← hi]; exact hh), List.drop_drop]
    · rw [if_neg hh]
      have ih := next_dec T k (p + 1) (by omega)
      have e : decL (T.toList.drop p) = T.getD p 0 :: decL (T.toList.drop (p + 1)) := by
        rw [drop_get hp, decL_cons, if_neg (by rw [← hi]; exact hh)]
      cases hn : nextM T k (p + 1) with
      | none => rw [hn] at ih; show decL _ = _; rw [e, ih, drop_get hp]
      | some q =>
        rw [hn] at ih
        obtain ⟨a, b, c⟩ := ih
        refine ⟨by omega, b, ?_⟩
        rw [e, c]
        conv => rhs; rw [drop_get hp]
        rw [show q - p = (q - (p + 1)) + 1 by omega, List.take_succ_cons]
        rfl
/-! the drive -/
section
variable {prog : Program} {w : World} {A : Around} {E : Value → Shared → Prop} {s : Shared}
theorem wp_drive {M' : Model} {Q : M → Shared → Prop} : ∀ (K n : Nat) (m : M), K ≤ n → 1 ≤ K → (M.runFor (4 * K) m).outcome.isSome = true → Q (M.runFor (4 * K) m) s → wpAny M' A (reDrive n m) Q E s
  | 0, _, _, _, h, _, _ => absurd h (by decide)
  | K + 1, 0, _, h, _, _, _ => absurd h (by omega)
  | K + 1, n + 1, m, hn, _, ho, q => by
    have e : M.runFor (4 * (K + 1)) m = M.runFor (4 * K) (M.runFor 4 m) := by rw [show 4 * (K + 1) = 4 + 4 * K by omega, runFor_add]
    unfold reDrive
    show wpAny _ _ (if (M.runFor 4 m).outcome.isSome = true then pure (M.runFor 4 m) else _) _ _ s
    by_cases h : (M.runFor 4 m).outcome.isSome = true
    · rw [if_pos h]
      rw [e, runFor_out _ _ h] at q
      exact wpAny_pure q
    · rw [if_neg h]
      refine wpAny_bind (wpAny_rule ?_)
      rw [e] at ho q
      refine wp_drive K n _ (by omega) ?_ ho q
      rcases Nat.eq_zero_or_pos K with z | z
      · subst z; exact absurd ho h
      · exact z
theorem wp_says {M' : Model} {Q : PUnit → Shared → Prop} (f : Nat → Bool) (g : Nat → String) (l : List Nat) (q : Q ⟨⟩ s) : wpAny M' A (forIn l PUnit.unit fun i _ => if f i = true then (do rule (g i); pure (ForInStep.yield PUnit.unit)) else pure (ForInStep.yield PUnit.unit)) Q E s := by
  refine wp_forIn (fun _ _ s' => s' = s) (fun a r b s' h => ?_) (fun b s' h => by rw [h]; exact q) l _ s rfl
  subst h
  refine wpAny_ite ?_
  split
  · exact wpAny_bind (wpAny_rule (wpAny_pure rfl))
  · exact wpAny_pure rfl
theorem wp_toEnd {M' : Model} {Q : Option M → Shared → Prop} {m : M} {N : Nat} (hN : N ≤ 2 ^ 60) (ho : (M.runFor N m).outcome.isSome = true) (hm : (M.runFor N m).outcome = some .matched → Q (some (M.runFor N m)) s)
    (hf : (M.runFor N m).outcome = some .failed → Q none s) (hs : (M.runFor N m).outcome = some .matched ∨ (M.runFor N m).outcome = some .failed) : wpAny M' A (reRunToEnd m) Q E s := by
  have e : M.runFor (4 * (N / 4 + 1)) m = M.runFor N m := by
    rw [show 4 * (N / 4 + 1) = N + (4 * (N / 4 + 1) - N) by omega, runFor_add, runFor_out _ _ ho]
  unfold reRunToEnd
  refine wpAny_bind (wp_drive (N / 4 + 1) (2 ^ 64) m (by omega) (by omega) (by rw [e]; exact ho) ?_)
  rw [e]
  refine wpAny_bind (wp_says (fun i => (M.runFor N m).seen.has i) (fun i => Sre.names.getD i "") _ ?_)
  rcases hs with h | h
  · rw [h]; exact wpAny_pure (hm h)
  · rw [h]; exact wpAny_pure (hf h)
theorem forS_short {T : Array Nat} {p : Nat} (h : T.size - p < 3) (hp : p ≤ T.size) : ∃ m, (Sre.forSearch codeA T 0 p T.size false).step = m ∧ m.outcome = some .failed ∧ (Sre.forSearch codeA T 0 p T.size false).outcome = none := by
  unfold Sre.forSearch
  have e : (decide (p > T.size) || decide (T.size - p < (Sre.header codeA).1)) = true := by
    have : (Sre.header codeA).1 = 3 := by decide +kernel
    rw [this]; simp; right; omega
  show ∃ m, (if (decide (p > T.size) || decide (T.size - p < (Sre.header codeA).1)) = true then _ else _ : M).step = m ∧ _
  rw [if_pos e]
  exact ⟨_, rfl, rfl, rfl⟩
theorem forS_long {T : Array Nat} {p : Nat} (h : ¬ T.size - p < 3) (hp : p ≤ T.size) : ∃ seen, Sre.forSearch codeA T 0 p T.size false = at0 T p true seen := by
  unfold Sre.forSearch
  have e : ¬ (decide (p > T.size) || decide (T.size - p < (Sre.header codeA).1)) = true := by
    have : (Sre.header codeA).1 = 3 := by decide +kernel
    rw [this]; simp; omega
  show ∃ seen, (if (decide (p > T.size) || decide (T.size - p < (Sre.header codeA).1)) = true then _ else _ : M) = _
  rw [if_neg e]
  exact ⟨_, rfl⟩
theorem nextM_short {T : Array Nat} : ∀ (k p : Nat), p + k = T.size → k < 3 → nextM T k p = none
  | 0, _, _, _ => rfl
  | k + 1, p, h, hk => by
    unfold nextM
    rw [if_neg (by unfold hit; simp; intro a; omega), nextM_short k (p + 1) (by omega) (by omega)]
theorem wp_next {M' : Model} {Q : Option M → Shared → Prop} {t : ReTarget} {T : Array Nat} {p : Nat} (hc : t.code = codeA) (ht : t.text = T) (hg : t.groups = 0) (hl : t.lim = T.size) (hp : p ≤ T.size) (hT : ∀ c ∈ T, c < 256) (hz : T.size ≤ 1000)
    (h : ∀ r : Option M, (match nextM T (T.size - p) p with | some q => ∃ m, r = some m ∧ m.start = q ∧ m.handed = q + 3 ∧ m.lastmark = -1 ∧ m.lastindex = -1 ∧ m.marks = #[] | none => r = none) → Q r s) : wpAny M' A (reNextFound t p false) Q E s := by
  unfold reNextFound
  rw [hc, ht, hg, hl]
  by_cases h3 : T.size - p < 3
  · obtain ⟨m, e1, e2, e3⟩ := forS_short (T := T) h3 hp
    have er : M.runFor 1 (Sre.forSearch codeA T 0 p T.size false) = m := by rw [runFor_step e3 e1]; rfl
    refine wp_toEnd (N := 1) (by decide) (by rw [er, e2]; rfl) (fun z => by rw [er, e2] at z; cases z) (fun _ => h none ?_) (.inr (by rw [er, e2]))
    rw [nextM_short (T.size - p) p (by omega) h3]
  · obtain ⟨seen, e⟩ := forS_long (T := T) h3 hp
    rw [e]
    obtain ⟨N, hN, m, em, ha⟩ := search_runs hT (T.size - p) p true seen (by omega)
    unfold ansOk at ha
    cases hn : nextM T (T.size - p) p with
    | none =>
      rw [hn] at ha h
      have ha : m.outcome = some .failed := ha
      exact wp_toEnd (N := N) (by omega) (by rw [em, ha]; rfl) (fun z => by rw [em, ha] at z; cases z) (fun _ => h none rfl) (.inr (by rw [em, ha]))
    | some q =>
      rw [hn] at ha h
      have ha : m.outcome = some .matched ∧ m.start = q ∧ m.handed = q + 3 ∧ m.lastmark = -1 ∧ m.lastindex = -1 ∧ m.marks = #[] := ha
      exact wp_toEnd (N := N) (by omega) (by rw [em, ha.1]; rfl) (fun z => h _ ⟨_, rfl, by rw [em]; exact ha.2⟩) (fun z => by rw [em, ha.1] at z; cases z) (.inl (by rw [em, ha.1]))
/-! the target -/
noncomputable def patObj : Obj := oFields "re.Pattern" [.str "=[a-fA-F0-9]{2}" 295, .int 256 327, .int 0 0, .none, .none, .ref 42, .int 0 0]
noncomputable def codeObj : Obj := { cls := .type "tuple", data := .seq (sreCode.map fun (n : Nat) => rawInt n).toArray }
theorem code_back : (((sreCode.map fun (n : Nat) => rawInt n).toArray).map reRawOf).map (·.toNat) = codeA := by decide +kernel
theorem wp_target {M' : Model} {Q : ReTarget → Shared → Prop} {x : PySem.Str} {tk : Tok} {pa : Addr} (h43 : s.heap.get? pa = some patObj) (h42 : s.heap.get? 42 = some codeObj)
    (h : Q { pattern := .ref pa, string := .str x tk, code := codeA, text := x.cps, kind := 0, groups := 0, pos := 0, lim := x.cps.size } s) : wpAny M' A (reWholeTarget (.ref pa) (.str x tk)) Q E s := by
  unfold reWholeTarget
  refine wpAny_bind (wpAny_fieldsOf h43 rfl ?_)
  have e1 : reTextOf (.str x tk) = pure (x.cps, 0) := rfl
  rw [e1]
  refine wpAny_bind (wpAny_pure ?_)
  refine wpAny_ite_false rfl ?_
  refine wpAny_ite_false rfl ?_
  refine wpAny_bind ?_
  unfold reNoCollectionInside
  refine wpAny_ite_false rfl ?_
  refine wpAny_pure ?_
  refine wpAny_bind ?_
  unfold reRawItems
  refine wpAny_bind ?_
  refine wpAny_seqItems (a := 42) h42 rfl ?_
  refine wpAny_pure ?_
  refine wpAny_pure ?_
  show Q { pattern := .ref pa, string := .str x tk, code := (((sreCode.map fun (n : Nat) => rawInt n).toArray).map reRawOf).map (·.toNat), text := x.cps, kind := 0, groups := 0, pos := 0, lim := x.cps.size } s
  rw [code_back]
  exact h
end
end Mine
end
section
open PySem PySem.W PyProof.Rows PySem.Builtin.Str PySem.Builtin PySem.Builtin.Re
namespace Mine
open PySem.Sre
theorem entry_loop : entryFor table "re.Pattern.sub.loop" = some Builtin.«re.Pattern.sub.loop» := entryFor_of_tree (by kernel_rfl)
theorem plain_loop : plainId "re.Pattern.sub.loop" = true := by decide +kernel
theorem entry_sub : entryFor table "re.Pattern.sub" = some Builtin.«re.Pattern.sub» := entryFor_of_tree (by kernel_rfl)
theorem entry_group : entryFor table "re.Match.group" = some Builtin.«re.Match.group» := entryFor_of_tree (by kernel_rfl)
theorem slot_sub : Slot "re.Pattern" "sub" "re.Pattern.sub" :=
  .of (owner := "re.Pattern") (n := "sub") (by rw [typeLookup_type, builtinLookup_eq_fast]; kernel_rfl) (by decide +kernel) (by decide +kernel) (by decide +kernel)
    (by first | exact .inl (by decide +kernel) | exact .inr (by decide +kernel)) (by rw [isSubtype_type]; kernel_rfl)
theorem slot_group : Slot "re.Match" "group" "re.Match.group" :=
  .of (owner := "re.Match") (n := "group") (by rw [typeLookup_type, builtinLookup_eq_fast]; kernel_rfl) (by decide +kernel) (by decide +kernel) (by decide +kernel)
    (by first | exact .inl (by decide +kernel) | exact .inr (by decide +kernel)) (by rw [isSubtype_type]; kernel_rfl)
theorem type_sub : typeOf (.builtin "re.Pattern.sub") = pure (.type "method_descriptor") := by show builtinType _ = _; rw [builtinType_eq_fast]; kernel_rfl
theorem type_group : typeOf (.builtin "re.Match.group") = pure (.type "method_descriptor") := by show builtinType _ = _; rw [builtinType_eq_fast]; kernel_rfl
theorem plainAttrs_pat : PlainAttrs "re.Pattern" := ⟨⟨"object.__getattribute__", by rw [typeLookup_type, builtinLookup_eq_fast]; kernel_rfl, by decide +kernel⟩, by rw [typeLookup_type, builtinLookup_eq_fast]; kernel_rfl⟩
theorem plainAttrs_mat : PlainAttrs "re.Match" := ⟨⟨"object.__getattribute__", by rw [typeLookup_type, builtinLookup_eq_fast]; kernel_rfl, by decide +kernel⟩, by rw [typeLookup_type, builtinLookup_eq_fast]; kernel_rfl⟩
theorem args_sub (a b c : Value) : argsOk "re.Pattern.sub" ⟨[a, b, c], []⟩ := by unfold argsOk; kernel_rfl
theorem args_group (a b : Value) : argsOk "re.Match.group" ⟨[a, b], []⟩ := by unfold argsOk; kernel_rfl
section
variable {prog : Program} {w : World} {base : Heap} {k : Nat}
noncomputable def matObj (x : List Nat) (tk : Tok) (pa ta : Addr) : Obj := oFields "re.Match" [.str (S x) tk, .ref pa, rawInt 0, rawInt x.length, rawInt (-1), .ref ta]
noncomputable def spanObj (p : Nat) : Obj := { cls := .type "tuple", data := .seq #[rawInt p, rawInt ((p + 3 : Nat) : Int)] }
structure SubI (x : List Nat) (s0 : Shared) (L : Addr) (p : Nat) (s : Shared) : Prop where
  ks : Ks s0 s
  new : s0.heap.get? L = none
  le : p ≤ x.length
  out : ∃ (l : List (PySem.Str × Tok)) (m : Nat) (out : List (List Nat)), s.heap.get? L = some (listObj (strValues l) m) ∧ l.map (·.1) = out.map S ∧ out.flatten ++ decL (x.drop p) = decL x ∧ out.length ≤ 2 * p
noncomputable def subArgs (pa fa L : Addr) (x : List Nat) (tk : Tok) (cnt : Int) (p : Nat) : List Value := [.ref pa, .str (S x) tk, .ref fa, rawInt 1, rawInt 0, rawInt cnt, rawInt (p : Int), rawInt (p : Int), .bool false, .ref L, .bool false]
theorem wp_pushL {M : Model} {A : Around} {E : Value → Shared → Prop} {s : Shared} {L : Addr} {l : List (PySem.Str × Tok)} {m : Nat} {x : PySem.Str} {t : Tok} {Q : Unit → Shared → Prop} (e : s.heap.get? L = some (listObj (strValues l) m)) (hl : l.length ≤ 5000)
    (h : ∀ h', h'.get? L = some (listObj (strValues (l ++ [(x, t)])) (m + 1)) → Heap.SameBut L s.heap h' → Q () { s with heap := h' }) : wpAny M A (updateSeq L fun xs => xs.push (.str x t)) Q E s := by
  have hz := sizeLine_eq
  refine wpAny_updateSeq e rfl (h _ ?_ (Heap.SameBut.update ..)) (by simp [strValues]; omega) (by simp [strValues]; omega)
  rw [Heap.get?_update_self _ e (by unfold listObj; rw [Obj.mapSeq_push_plain]; rfl)]
  unfold listObj; rw [Obj.mapSeq_push_plain]; simp [strValues]
theorem Ks.sameBut {s0 s : Shared} {L : Addr} {h' : Heap} (k : Ks s0 s) (n : s0.heap.get? L = Option.none) (sb : Heap.SameBut L s.heap h') : Ks s0 { s with heap := h' } := by
  obtain ⟨h, t, rfl, kp⟩ := k
  exact ⟨h', t, rfl, fun b o e => (sb.2 b fun z => by rw [z, n] at e; cases e).trans (kp b o e)⟩
theorem join_empty (l : List (List Nat)) : Txt.join PySem.Str.empty (l.map S) = S l.flatten := by
  unfold Txt.join
  rw [StrLaws.glued_eq_join]
  induction l with
  | nil => rfl
  | cons a r ih =>
    cases r with
    | nil => show S a = _; simp
    | cons b r =>
      show S a ++ PySem.Str.empty ++ Str.join PySem.Str.empty ((b :: r).map S) = _
      rw [ih]
      apply Str.ext'
      simp [Str.cps_append, PySem.Str.empty]
theorem flatten_len {out : List (List Nat)} {x : List Nat} (h : out.flatten ++ x = decL (y : List Nat)) : out.flatten.length ≤ (decL y).length := by
  rw [← h, List.length_append]; omega
theorem decF_len : ∀ (n : Nat) (l : List Nat), (decF n l).length ≤ l.length
  | 0, _ => Nat.zero_le _
  | _ + 1, [] => Nat.le_refl _
  | n + 1, c :: r => by
    unfold decF
    split
    · have := decF_len n (r.drop 2); simp at this ⊢; omega
    · have := decF_len n r; simp at this ⊢; omega
theorem joinOk_empty {xs : List PySem.Str} {N : Nat} (h : (xs.map (·.length)).sum ≤ N) (hN : N ≤ 16777216) : JoinOk PySem.Str.empty xs = true := by
  unfold JoinOk tooLong
  rw [StrLaws.joinTotal, sizeLine_eq]
  have : PySem.Str.empty.length = 0 := rfl
  rw [this]
  simp; omega
theorem sum_len_S (out : List (List Nat)) : ((out.map S).map (·.length)).sum = out.flatten.length := by
  induction out with
  | nil => rfl
  | cons a r ih => rw [List.map_cons, List.map_cons, List.sum_cons, ih, List.flatten_cons, List.length_append, S_len]
theorem sub_rest {X : Addr → Prop} {A : Around} {pa fa L : Addr} {x : List Nat} {tk : Tok} {s0 s : Shared} {R : Result → Shared → Prop} (g : GA k A.in1) (o : Ok base X s0) (hlen : x.length ≤ 1000) {q : Nat} (hq : q + 2 < x.length) {mm : M}
    (m1 : mm.start = q) (m2 : mm.handed = q + 3) (m4 : mm.lastindex = -1)
    (cb : ∀ ta, OpL prog w base k (fun vs => call (.ref fa) vs) [.obj (matObj x tk pa ta) [(ta, spanObj q)]] (.str (S [hexV (x.drop (q + 1))])))
    (cnt : Int) (ks : Ks s0 s) (nL : s0.heap.get? L = none) {l : List (PySem.Str × Tok)} {m : Nat} {out : List (List Nat)} (eL : s.heap.get? L = some (listObj (strValues l) m)) (el : l.map (·.1) = out.map S)
    (ed : out.flatten ++ hexV (x.drop (q + 1)) :: decL (x.drop (q + 3)) = decL x) (en : out.length ≤ 2 * q + 1)
    (ih : ∀ s', SubI x s0 L (q + 3) s' → codeAny (model prog w) A (.builtin "re.Pattern.sub.loop" ⟨subArgs pa fa L x tk (cnt + 1) (q + 3), []⟩) R s') :
    wpAny (model prog w) A.in1 (do
      let item ← if ((1 : Int) == 0) = true then pure (Value.ref fa) else do
        let found ← reNewMatch (.ref pa) (.str (S x) tk) 0 0 (S x).cps.size mm
        holding [found] (if ((1 : Int) == 1) = true then call (.ref fa) [found] else do reExpand (.ref fa) (← reFound found))
      if (item != Value.none) = true then updateSeq L fun xs => xs.push item
      again (.builtin "re.Pattern.sub.loop" ⟨[.ref pa, .str (S x) tk, .ref fa, rawInt 1, rawInt 0, rawInt (cnt + 1), rawInt (mm.handed : Int), rawInt (mm.handed : Int), .bool (mm.handed == mm.start), .ref L, .bool false], []⟩))
      (fun fin s' => match fin with | .done f => R (.ok f) s' | .again c' => c'.quiet = true ∧ codeAny (model prog w) A c' R s') (fun e s' => R (.error e) s') s := by
  have ll : l.length = out.length := by simpa using congrArg List.length el
  refine wpAny_ite_false rfl ?_
  refine wpAny_bind ?_
  unfold reNewMatch
  refine wpAny_ite_false (by rfl) ?_
  refine wpAny_bind (wp_newTuple (by show 2 ≤ sizeLine; rw [sizeLine_eq]; omega) ?_)
  rw [m1, m2, m4]
  generalize e1 : s.heap.push (tupObj (rawInt (q : Int) :: rawInt ((q + 3 : Nat) : Int) :: List.flatMap _ (List.range 0)) 0) = hA
  unfold newFields
  refine wpAny_newObj_type ?_
  have sz1 : hA.objs.size = s.heap.objs.size + 1 := by rw [← e1, Heap.size_push]
  generalize e2 : hA.push _ = hB
  have kA : Kp s.heap hA := fun b o e => by rw [← e1]; exact Heap.get?_push_of_some _ e
  have kB : Kp hA hB := fun b o e => by rw [← e2]; exact Heap.get?_push_of_some _ e
  have ksB : Ks s { s with heap := hB } := ⟨hB, s.toks, rfl, fun b o e => kB b o (kA b o e)⟩
  have oS := o.keeps ks
  have gT : hB.get? s.heap.objs.size = some (spanObj q) := kB _ _ (by rw [← e1]; exact Heap.get?_push_size _ rfl)
  have gM : hB.get? hA.objs.size = some (matObj x tk pa s.heap.objs.size) := by rw [← e2]; exact Heap.get?_push_size _ rfl
  have fr : ∀ b, s.heap.objs.size ≤ b → ¬ X b := fun b hb xb => by
    obtain ⟨z, e⟩ := oS.2.1 _ xb
    exact absurd (Heap.lt_size e) (Nat.not_lt.mpr hb)
  refine wpAny_bind (wpAny_holding (wpAny_ite_true rfl ?_))
  refine (cb s.heap.objs.size).out A.in1 X _ _ _ [.ref hA.objs.size] g (oS.keeps ksB) (.cons (.obj (fr _ (by omega)) gM fun p hp => ?_) .nil) fun v s2 rv k2 => ?_
  · simp only [List.mem_singleton] at hp
    subst hp
    exact ⟨fr _ (Nat.le_refl _), gT⟩
  · obtain ⟨t2, rfl⟩ := rv.inv
    have ks2 := (ks.then ksB).then k2
    have eL2 : s2.heap.get? L = some (listObj (strValues l) m) := k2.kp _ _ (kB _ _ (kA _ _ eL))
    refine wpAny_ite_true rfl ?_
    refine wpAny_bind (wp_pushL eL2 (by omega) fun h' e' sb' => ?_)
    refine wpAny_pure ⟨plainId_quiet plain_loop _, ?_⟩
    have eb : (q + 3 == q) = false := by simp
    rw [eb]
    refine ih _ ⟨ks2.sameBut nL sb', nL, by omega, _, _, out ++ [[hexV (x.drop (q + 1))]], e', ?_, ?_, ?_⟩
    · rw [List.map_append, List.map_append, el]; rfl
    · rw [← ed]; simp
    · simp; omega
theorem sub_end {X : Addr → Prop} {A : Around} {L : Addr} {x : List Nat} {s0 s : Shared} {R : Result → Shared → Prop} {n : Int} (g : GA k A.in1) (o : Ok base X s0) (hlen : x.length ≤ 1000)
    (hR : ∀ t' s', Ks s0 s' → R (.ok (.ret (.str (S (decL x)) t'))) s') (ks : Ks s0 s) (nL : s0.heap.get? L = none) {l : List (PySem.Str × Tok)} {m : Nat} {out : List (List Nat)} (eL : s.heap.get? L = some (listObj (strValues l) m)) (el : l.map (·.1) = out.map S)
    (ed : out.flatten = decL x) :
    wpAny (model prog w) A.in1 (do
      let joiner ← reSlice (S x).cps 0 0 0
      let text ← if ((← seqItems? (.ref L)).getD #[]).isEmpty = true then pure joiner else call (.builtin (if ((0 : Nat) == 0) = true then "str.join" else "bytes.join")) [joiner, .ref L]
      if false = true then ret (← holding [text] do newTuple [text, ← mkInt n]) else ret text)
      (fun fin s' => match fin with | .done f => R (.ok f) s' | .again c' => c'.quiet = true ∧ codeAny (model prog w) A c' R s') (fun e s' => R (.error e) s') s := by
  have dl : (decL x).length ≤ 1000 := Nat.le_trans (decF_len _ _) hlen
  refine wpAny_bind ?_
  unfold reSlice
  refine wpAny_ite_true rfl ?_
  have e0 : (⟨(S x).cps.extract 0 0⟩ : PySem.Str) = PySem.Str.empty := by apply Str.ext'; simp [PySem.Str.empty]
  rw [e0]
  refine wpAny_mkStr ?_ (by show 0 ≤ sizeLine; omega)
  refine wpAny_bind (wpAny_seqItems (s := { s with toks := s.toks + 1 }) eL rfl ?_)
  cases l with
  | nil =>
    have : out = [] := by simpa using el.symm
    subst this
    have ed' : decL x = [] := by rw [← ed]; rfl
    refine wpAny_ite_true rfl ?_
    refine wpAny_bind (wpAny_pure ?_)
    refine wpAny_ite_false rfl ?_
    refine wpAny_pure ?_
    have := hR s.toks { s with toks := s.toks + 1 } (ks.then (.tok _ _))
    rw [ed'] at this
    exact this
  | cons a r =>
    refine wpAny_ite_false (by simp [strValues]) ?_
    have oS := o.keeps ks
    have nX : ¬ X L := fun xb => by obtain ⟨z, e⟩ := o.2.1 _ xb; rw [nL] at e; cases e
    have cj := c_join (prog := prog) (w := w) (base := base) (k := k) (x := PySem.Str.empty) (xs := out.map S) (joinOk_empty (N := 1000) (by rw [sum_len_S, ed]; exact dl) (by omega))
    refine wpAny_bind (cj.out A.in1 X { s with toks := s.toks + 1 } _ _ [.str PySem.Str.empty s.toks, .ref L] g (oS.keeps (.tok _ _)) (.cons (.str _ _) (.cons (.list nX eL ?_) .nil)) fun v s2 rv k2 => ?_)
    · have := rep_vals (w := w) (X := X) (h := s.heap) (a :: r)
      rw [el] at this
      exact this
    · refine wpAny_ite_false rfl ?_
      refine wpAny_pure ?_
      rw [join_empty, ed] at rv
      obtain ⟨t2, rfl⟩ := rv.inv
      exact hR t2 s2 ((ks.then (.tok _ _)).then k2)
theorem sub_turn {X : Addr → Prop} {A : Around} {pa fa L : Addr} {x : List Nat} {tk : Tok} {s0 : Shared} {R : Result → Shared → Prop} (g : GA k A.in1) (o : Ok base X s0) (hx : ∀ c ∈ x, c < 256) (hlen : x.length ≤ 1000)
    (h1 : s0.heap.get? pa = some patObj) (h2 : s0.heap.get? 42 = some codeObj)
    (cb : ∀ ta p, hit x.toArray p = true → OpL prog w base k (fun vs => call (.ref fa) vs) [.obj (matObj x tk pa ta) [(ta, spanObj p)]] (.str (S [hexV (x.drop (p + 1))])))
    (hR : ∀ t' s', Ks s0 s' → R (.ok (.ret (.str (S (decL x)) t'))) s') (p : Nat) (ih : ∀ q cnt s, p < q → SubI x s0 L q s → codeAny (model prog w) A (.builtin "re.Pattern.sub.loop" ⟨subArgs pa fa L x tk cnt q, []⟩) R s) (cnt : Int) (s : Shared) (I : SubI x s0 L p s) :
    codeAny (model prog w) A (.builtin "re.Pattern.sub.loop" ⟨subArgs pa fa L x tk cnt p, []⟩) R s := by
  obtain ⟨ks, nL, hle, l, m, out, eL, el, ed, en⟩ := I
  have ll : l.length = out.length := by simpa using congrArg List.length el
  refine codeAny_builtin entry_loop ?_
  rw [Around.under_plainId plain_loop]
  unfold «re.Pattern.sub.loop» subArgs rawInt
  refine wpAny_bind (wp_target (ks.kp _ _ h1) (ks.kp _ _ h2) ?_)
  refine wpAny_ite_false rfl ?_
  refine wpAny_bind ?_
  refine wpAny_ite_false (by rfl) ?_
  have hxs : (S x).cps = x.toArray := rfl
  have hT : ∀ c ∈ x.toArray, c < 256 := fun c hc => hx c (by simpa using hc)
  refine wp_next (T := x.toArray) (p := p) rfl rfl rfl rfl (by simpa using hle) hT (by simpa using hlen) fun r hr => ?_
  have nd := next_dec x.toArray (x.toArray.size - p) p (by simp; omega)
  cases hn : nextM x.toArray (x.toArray.size - p) p with
  | some q =>
    rw [hn] at hr nd
    obtain ⟨mm, rfl, m1, m2, m3, m4, m5⟩ := hr
    obtain ⟨hpq, hh, hdec⟩ := nd
    have hq : q + 2 < x.length := by
      unfold hit at hh
      simp only [Bool.and_eq_true, decide_eq_true_eq] at hh
      simpa using hh.1.1.1
    have hex : hexV (x.toArray.toList.drop (q + 1)) = hexV (x.drop (q + 1)) := rfl
    have cb' := fun ta => cb ta q hh
    have fin : ∀ s', SubI x s0 L (q + 3) s' → codeAny (model prog w) A (.builtin "re.Pattern.sub.loop" ⟨subArgs pa fa L x tk (cnt + 1) (q + 3), []⟩) R s' := fun s' I => ih (q + 3) (cnt + 1) s' (by omega) I
    have hdec' : decL (x.drop p) = (x.drop p).take (q - p) ++ hexV (x.drop (q + 1)) :: decL (x.drop (q + 3)) := hdec
    refine wpAny_ite_split (fun hlt => ?_) fun hnl => ?_
    · have hlt : p < q := by rw [m1] at hlt; simpa using hlt
      refine wpAny_bind ?_
      unfold reSlice
      refine wpAny_ite_true rfl ?_
      have esl : (⟨(S x).cps.extract (p : Int).toNat mm.start⟩ : PySem.Str) = S ((x.drop p).take (q - p)) := by
        rw [m1]; apply Str.ext'; simp
      rw [esl]
      refine wpAny_mkStr ?_ (by rw [S_len, sizeLine_eq]; simp; omega)
      refine wpAny_bind (wp_pushL (s := { s with toks := s.toks + 1 }) eL (by omega) fun h' e' sb' => ?_)
      exact sub_rest g o hlen hq m1 m2 m4 cb' cnt ((ks.then (.tok _ _)).sameBut nL sb') nL (l := l ++ [(S ((x.drop p).take (q - p)), s.toks)]) (out := out ++ [(x.drop p).take (q - p)]) e' (by rw [List.map_append, List.map_append, el]; rfl)
        (by rw [← ed, hdec']; simp) (by simp; omega) fin
    · have hnl : q = p := by rw [m1] at hnl; have := hnl; simp at this; omega
      subst hnl
      exact sub_rest g o hlen hq m1 m2 m4 cb' cnt ks nL eL el (by rw [← ed, hdec']; simp) (by omega) fin
  | none =>
    rw [hn] at hr nd
    subst hr
    have nd' : decL (x.drop p) = x.drop p := nd
    refine wpAny_ite_split (fun hlt => ?_) fun hnl => ?_
    · refine wpAny_bind ?_
      unfold reSlice
      refine wpAny_ite_true rfl ?_
      have esl : (⟨(S x).cps.extract (p : Int).toNat (S x).cps.size⟩ : PySem.Str) = S (x.drop p) := by
        apply Str.ext'; simp [List.take_of_length_le]
      rw [esl]
      refine wpAny_mkStr ?_ (by rw [S_len, sizeLine_eq]; simp; omega)
      refine wpAny_bind (wp_pushL (s := { s with toks := s.toks + 1 }) eL (by omega) fun h' e' sb' => ?_)
      exact sub_end (n := cnt) g o hlen hR ((ks.then (.tok _ _)).sameBut nL sb') nL (l := l ++ [(S (x.drop p), s.toks)]) (out := out ++ [x.drop p]) e' (by rw [List.map_append, List.map_append, el]; rfl)
        (by rw [← ed, nd']; simp)
    · have hpe : x.drop p = [] := List.drop_eq_nil_of_le (by simp at hnl; omega)
      exact sub_end (n := cnt) g o hlen hR ks nL eL el (by rw [← ed, nd', hpe]; simp)
theorem sub_loop {X : Addr → Prop} {A : Around} {pa fa L : Addr} {x : List Nat} {tk : Tok} {s0 : Shared} {R : Result → Shared → Prop} (g : GA k A.in1) (o : Ok base X s0) (hx : ∀ c ∈ x, c < 256) (hlen : x.length ≤ 1000)
    (h1 : s0.heap.get? pa = some patObj) (h2 : s0.heap.get? 42 = some codeObj)
    (cb : ∀ ta p, hit x.toArray p = true → OpL prog w base k (fun vs => call (.ref fa) vs) [.obj (matObj x tk pa ta) [(ta, spanObj p)]] (.str (S [hexV (x.drop (p + 1))])))
    (hR : ∀ t' s', Ks s0 s' → R (.ok (.ret (.str (S (decL x)) t'))) s') : ∀ (n p : Nat), x.length - p ≤ n → ∀ (cnt : Int) (s : Shared), SubI x s0 L p s → codeAny (model prog w) A (.builtin "re.Pattern.sub.loop" ⟨subArgs pa fa L x tk cnt p, []⟩) R s := by
  intro n
  induction n with
  | zero =>
    intro p hp cnt s I
    exact sub_turn g o hx hlen h1 h2 cb hR p (fun q cnt s hq I' => by have := I'.le; omega) cnt s I
  | succ n ih =>
    intro p hp cnt s I
    exact sub_turn g o hx hlen h1 h2 cb hR p (fun q cnt s hq I' => ih q (by omega) cnt s I') cnt s I
theorem look_call : typeLookup (.type "function") "__call__" = pure (some (.builtin "function.__call__")) := by rw [typeLookup_type, builtinLookup_eq_fast]; kernel_rfl
theorem sub_ba : isSubtype (.type "str") (.type "bytearray") = pure false := by rw [isSubtype_type]; kernel_rfl
theorem GA.in1 {A : Around} (g : GA (k + 1) A) : GA k A.in1 := ⟨g.1, by have := g.2.1; show A.depth + k < _; omega, by have := g.2.2; show A.units + 1 + 8 * k < _; omega⟩
theorem c_sub {fa : Addr} {fo : Obj} {fd : FuncData} {x : List Nat} (hx : ∀ c ∈ x, c < 256) (hlen : x.length ≤ 1000) (h2 : base.get? 42 = some codeObj) (hf : base.get? fa = some fo) (hfd : fo.data = .func fd) (hfc : fo.cls = .type "function")
    (cb : ∀ tk pa ta p, hit x.toArray p = true → OpL prog w base k (fun vs => call (.ref fa) vs) [.obj (matObj x tk pa ta) [(ta, spanObj p)]] (.str (S [hexV (x.drop (p + 1))]))) :
    OpL prog w base (k + 1) (fun vs => call (.builtin "re.Pattern.sub") vs) [.obj patObj [], .at fa, .str (S x)] (.str (S (decL x))) := Seal.mk fun A X s Q E vs g o r q => by
  obtain ⟨_, _, _, rfl, a, b, c⟩ := r.inv3
  obtain rfl := b.inv
  obtain ⟨pa, rfl, np, ep, _⟩ := a.inv
  obtain ⟨tk, rfl⟩ := c.inv
  refine wpAny_call (codeAny_call_builtin slot_sub.plain entry_sub (slot_sub.check _ _ _ _ _ _ _ _ ⟨_, ep, rfl⟩ (args_sub _ _ _) ?_))
  unfold «re.Pattern.sub» reSubstitute
  have e1 : reNamed "re.Pattern.sub" "sub" ["repl", "string", "count"] 2 [.ref fa, .str (S x) tk] [] = pure [some (.ref fa), some (.str (S x) tk), none] := by kernel_rfl
  show wpAny _ _ (reNamed "re.Pattern.sub" "sub" ["repl", "string", "count"] 2 [.ref fa, .str (S x) tk] [] >>= _) _ _ s
  rw [e1]
  refine wpAny_bind (wpAny_pure ?_)
  refine wpAny_bind (wpAny_pure ?_)
  have tf : s.TypeIs (.ref fa) "function" := ⟨fo, o.1 _ _ hf, hfc⟩
  refine wpAny_bind (wpAny_specialOf tf look_call ?_)
  refine wpAny_ite_true rfl ?_
  refine wpAny_bind (wpAny_pure ?_)
  refine wpAny_ite_true rfl ?_
  refine wpAny_bind (wpAny_pure ?_)
  refine wpAny_bind (wpAny_holding (wp_target ep (o.1 _ _ h2) ?_))
  refine wpAny_ite_true rfl ?_
  refine wpAny_bind ?_
  unfold reNotHeld
  refine wpAny_bind (wpAny_isInstance (typeIs_str _ _ _) sub_ba ?_)
  refine wpAny_ite_false rfl ?_
  refine wpAny_pure ?_
  refine wpAny_bind (wp_newList (by show 0 ≤ sizeLine; omega) ?_)
  refine wpAny_pure ⟨plainId_quiet plain_loop _, ?_⟩
  have nL : s.heap.get? s.heap.objs.size = none := get_size _
  refine sub_loop g.in1 o hx hlen ep (o.1 _ _ h2) (fun ta p hh => cb tk pa ta p hh) (fun t' s' ks => q _ s' (.str _ _) ks) x.length 0 (by omega) 0 _ ⟨.push0 s _, nL, Nat.zero_le _, [], 0, [], Heap.get?_push_size _ rfl, rfl, rfl, Nat.le_refl _⟩
end
end Mine
end
section
open PySem PySem.W PyProof.Rows PySem.Builtin.Str PySem.Builtin
namespace Mine
/-! int(s, 16) of two hexadecimal signs -/
theorem val_all : ((List.range 128).all fun a => !hexSet a || (List.range 128).all fun b => !hexSet b ||
    (int_private% "Numeral.casesOn") (motive := fun _ => Bool) ((int_private% "readNumeral") 0 16 [a, b]) false (fun _ => false) false (fun i => i == ((16 * hv a + hv b : Nat) : Int))) = true := by decide +kernel
theorem hex_lt {a : Nat} (h : hexSet a = true) : a < 128 ∧ 48 ≤ a := by
  unfold hexSet at h
  simp only [Bool.or_eq_true, Bool.and_eq_true, decide_eq_true_eq] at h
  omega
theorem val_is {a b : Nat} (ha : hexSet a = true) (hb : hexSet b = true) : (int_private% "readNumeral") 0 16 [a, b] = (int_private% "Numeral.value") ((16 * hv a + hv b : Nat) : Int) := by
  have h := List.all_eq_true.mp val_all a (List.mem_range.mpr (hex_lt ha).1)
  rw [ha, Bool.not_true, Bool.false_or] at h
  have h2 := List.all_eq_true.mp h b (List.mem_range.mpr (hex_lt hb).1)
  rw [hb, Bool.not_true, Bool.false_or] at h2
  revert h2
  generalize (int_private% "readNumeral") 0 16 [a, b] = r
  cases r with
  | value i => intro h2; exact congrArg _ (beq_iff_eq.mp h2)
  | _ => intro h2; cases h2
theorem wp_text16 {M : Model} {A : Around} {E : Value → Shared → Prop} {s : Shared} {Q : Value → Shared → Prop} {v : Value} {text : List Nat} {n : Int}
    (hs : (text.takeWhile (· != 0)).length ≤ 640) (hr : (int_private% "readNumeral") 0 16 (text.takeWhile (· != 0)) = (int_private% "Numeral.value") n)
    (ha : ((text.takeWhile (· != 0)).length == text.length) = true) (h : Q (.int n s.toks) { s with toks := s.toks + 1 }) :
    wpAny M A ((int_private% "intFromText") v text 16) Q E s := by
  obtain ⟨hp, g, d, tk, os⟩ := s
  repeat (any_goals (first
    | assumption
    | (with_reducible refine wpAny_ite_true (decide_eq_true hs) ?_)
    | (with_reducible refine wpAny_ite_true (decide_eq_true ha) ?_)
    | wp_step))
  all_goals (try rw [hr])
  all_goals (try dsimp only)
  repeat (any_goals (first
    | assumption
    | (with_reducible refine wpAny_ite_true (decide_eq_true hs) ?_)
    | (with_reducible refine wpAny_ite_true (decide_eq_true ha) ?_)
    | wp_step))
theorem newCall_int_2 (a b : Value) : checkBuiltinCall "int.__new__" ⟨[.type "int", a, b], []⟩ = pure () := by kernel_rfl
theorem typeCall_int_2 (a b : Value) : checkTypeCall "int" ⟨[a, b], []⟩ = pure () := by kernel_rfl
theorem args_init_3 (a b c : Value) : argsOk "object.__init__" ⟨[a, b, c], []⟩ := by
  unfold argsOk; rw [signature?_of (id := "object.__init__") (n := ['_', '_', 't', 'i', 'n', 'i', '_', '_']) (o := ['t', 'c', 'e', 'j', 'b', 'o']) (by kernel_rfl) PySem.F.owner_object]; kernel_rfl
theorem txt_is {a b : Nat} (ha : hexSet a = true) (hb : hexSet b = true) (u : Tok) : (int_private% "numeralText?") (.str (S [a, b]) u) = pure (some [a, b]) := by
  have h : (S [a, b]).cps.all (fun c => decide (c < 128)) = true := by
    have h1 := (hex_lt ha).1
    have h2 := (hex_lt hb).1
    simp [h1, h2]
  show (pure (some (if (S [a, b]).cps.all (fun c => decide (c < 128)) = true then (S [a, b]).cps.toList else _)) : Sem (Option (List Nat))) = _
  rw [if_pos h]
set_option maxHeartbeats 4000000 in
theorem gives_hex {a b : Nat} (ha : hexSet a = true) (hb : hexSet b = true) (u v : Tok) : Gives (Builtin.«int.__new__» ⟨[.type "int", .str (S [a, b]) u, .int 16 v], []⟩) (.int ((16 * hv a + hv b : Nat) : Int)) :=
  .of_wp fun M A E s Q h => by
    obtain ⟨hp, g, d, tk, os⟩ := s
    have f1 := F.conv_sub_int
    have f2 := F.madeHere_int
    have f3 := txt_is ha hb u
    have hd : List.takeWhile (· != 0) [a, b] = [a, b] := by
      have h1 : (a != 0) = true := by have := (hex_lt ha).2; simp; omega
      have h2 : (b != 0) = true := by have := (hex_lt hb).2; simp; omega
      simp [List.takeWhile, h1, h2]
    have hk : ((List.takeWhile (· != 0) [a, b]).length ≤ 640) ∧ ((int_private% "readNumeral") 0 16 (List.takeWhile (· != 0) [a, b]) = (int_private% "Numeral.value") ((16 * hv a + hv b : Nat) : Int)) ∧ (((List.takeWhile (· != 0) [a, b]).length == [a, b].length) = true) := by
      rw [hd]; exact ⟨by show 2 ≤ 640; decide, val_is ha hb, rfl⟩
    have hk := KIN.Hid.mk hk
    clear hd
    repeat (any_goals (first
      | assumption
      | ((with_reducible show wpAny _ _ ((int_private% "numeralText?") _) _ _ _); refine wpAny_of_eq f3 ?_)
      | ((show wpAny _ _ ((int_private% "intFromText") _ _ 16) _ _ _); refine wp_text16 hk.out.1 hk.out.2.1 hk.out.2.2 ?_)
      | wp_step))
    all_goals first | exact ⟨_, rfl, h⟩ | skip
section
variable {prog : Program} {w : World} {base : Heap} {k : Nat}
theorem c_hex {a b : Nat} (ha : hexSet a = true) (hb : hexSet b = true) : OpL prog w base k (fun vs => call (.type "int") vs) [.str (S [a, b]), .int 16] (.int ((16 * hv a + hv b : Nat) : Int)) := Seal.mk fun A X s Q E vs g o r q => by
  obtain ⟨_, _, rfl, x, y⟩ := r.inv2
  obtain ⟨u, rfl⟩ := x.inv
  obtain ⟨v, rfl⟩ := y.inv
  exact callType_new F.called_int F.newNe_int (typeCall_int_2 _ _) (newCall_int_2 _ _) (fun obj => args_init_3 obj _ _) F.entry_int_new (gives_hex ha hb u v).meets
    (show (Made.int _).post _ s from ⟨rfl, q _ _ (.int _ _) (.tok s _)⟩)
/-! match.group(0) -/
theorem gtext (p : Nat) (x : List Nat) (tk : Tok) (f : Re.ReFound) (hf : f.fields.getD 0 .none = .str (S x) tk) (g : Nat) (hs : f.spans = #[(p : Int), ((p + 3 : Nat) : Int)]) (hg : g = 0 := by rfl) : Re.reGroupText f g .none = mkStr (S ((x.drop p).take 3)) := by
  subst hg
  unfold Re.reGroupText
  rw [hs, hf]
  have e1 : (#[(p : Int), ((p + 3 : Nat) : Int)] : Array Int).getD (2 * 0) (-1) = p := rfl
  have e2 : (#[(p : Int), ((p + 3 : Nat) : Int)] : Array Int).getD (2 * 0 + 1) (-1) = ((p + 3 : Nat) : Int) := rfl
  rw [e1, e2]
  dsimp only
  rw [if_neg (by simp; omega)]
  have e3 : Re.reTextOf (.str (S x) tk) = pure ((S x).cps, 0) := rfl
  rw [e3]
  show Re.reSlice (S x).cps 0 _ _ = _
  unfold Re.reSlice
  rw [if_pos (by rfl)]
  congr 1
  apply Str.ext'
  rw [show (p : Int).toNat = p by omega, show ((p + 3 : Nat) : Int).toNat = p + 3 by omega]
  simp
theorem c_group {x : List Nat} {tk : Tok} {pa ta : Addr} {p : Nat} (hx : x.length ≤ 1000) : OpL prog w base k (fun vs => call (.builtin "re.Match.group") vs) [.obj (matObj x tk pa ta) [(ta, spanObj p)], .int 0] (.str (S ((x.drop p).take 3))) := Seal.mk fun A X s Q E vs g o r q => by
  obtain ⟨_, _, rfl, a, b⟩ := r.inv2
  obtain ⟨u, rfl⟩ := b.inv
  obtain ⟨ma, rfl, nx, e, more⟩ := a.inv
  have eT := (more (ta, spanObj p) (by simp)).2
  refine wpAny_call (codeAny_call_builtin slot_group.plain entry_group (slot_group.check _ _ _ _ _ _ _ _ ⟨_, e, rfl⟩ (args_group _ _) ?_))
  unfold «re.Match.group» noKeywords
  refine wpAny_bind (wpAny_ite_true rfl (wpAny_pure ?_))
  refine wpAny_bind ?_
  unfold Re.reFound
  refine wpAny_bind (wpAny_fieldsOf e rfl ?_)
  refine wpAny_bind ?_
  unfold Re.reRawItems
  refine wpAny_bind (wpAny_seqItems (a := ta) eT rfl ?_)
  refine wpAny_pure ?_
  refine wpAny_pure ?_
  refine wpAny_bind ?_
  unfold Re.reGroupNumber
  have e1 : asInt? (.int 0 u) = pure (some 0) := rfl
  have e2 : asIndex (.int 0 u) = pure 0 := by kernel_rfl
  rw [e1]
  refine wpAny_bind (wpAny_pure ?_)
  refine wpAny_ite_true rfl ?_
  rw [e2]
  refine wpAny_bind (wpAny_pure ?_)
  refine wpAny_ite_false (by simp) ?_
  refine wpAny_pure ?_
  refine wpAny_bind ?_
  rw [show Re.reGroupText _ (Int.toNat 0) Value.none = _ from gtext p x tk _ rfl _ (by simp [Re.reRawOf, rawInt])]
  refine wpAny_mkStr ?_ (by rw [S_len, sizeLine_eq]; simp; omega)
  refine wpAny_pure ?_
  exact q _ _ (.str _ _) (.tok s _)
end
end Mine
end
section
open PySem PySem.W PyProof.Rows PySem.Builtin.Str PySem.Builtin
namespace Mine
theorem GlobIs.kp {prog : Program} {w : World} {base base' : Heap} {x : Str} {v : Value} (g : GlobIs prog w base x v) (k : Kp base base') : GlobIs prog w base' x v := Seal.mk fun A env s Q E p a b c d e f => g.out A env s Q E p a b c d (k.trans e) f
theorem Tr.of {prog : Program} {w : World} {base : Heap} {k : Nat} {env : Env} {V : List (Str × D)} {e : Expr} {a b : Bool} (h : Tr prog w base k env V e a) (q : a = b) : Tr prog w base k env V e b := q ▸ h
noncomputable def bltF : List Str := ["len", "chr", "ord", "isinstance", "sum", "min", "max"]
noncomputable def bltT : List Str := ["range", "bytes", "str", "list", "int", "ValueError"]
/-- what the top has left -/
structure Gl (w : World) (base : Heap) : Prop where
  fn : ∀ e ∈ fnTab, GlobIs P0 w base e.1 (.ref e.2.2) ∧ DefIs base e.2.2 (fnData P0 e.2.1 e.2.2) ∧ base.get? e.2.2 = some (fnObj P0 e.2.1 e.2.2)
  dat : ∀ e ∈ datTab, GlobIs P0 w base e.1 e.2
  obj : ∀ e ∈ objTab, base.get? e.1 = some e.2
  bf : ∀ x ∈ bltF, GlobIs P0 w base x (.builtin x.toString)
  bt : ∀ x ∈ bltT, GlobIs P0 w base x (.type x.toString)
  sys : ∃ o, base.get? sysModules = some o
theorem Gl.kp {w : World} {base base' : Heap} (g : Gl w base) (k : Kp base base') : Gl w base' where
  fn := fun e h => ⟨(g.fn e h).1.kp k, (g.fn e h).2.1.kp k, k _ _ (g.fn e h).2.2⟩
  dat := fun e h => (g.dat e h).kp k
  obj := fun e h => k _ _ (g.obj e h)
  bf := fun x h => (g.bf x h).kp k
  bt := fun x h => (g.bt x h).kp k
  sys := let ⟨o, e⟩ := g.sys; ⟨o, k _ _ e⟩
namespace Gl
variable {w : World} {base : Heap} (G : Gl w base)
include G
theorem n_decode_rfc2231 : GlobIs P0 w base "decode_rfc2231" (.ref 38) := (G.fn _ (List.getElem_mem (l := fnTab) (n := 0) (by decide))).1
theorem d_decode_rfc2231 : DefIs base 38 (fnData P0 3 38) := (G.fn _ (List.getElem_mem (l := fnTab) (n := 0) (by decide))).2.1
theorem n_unquote : GlobIs P0 w base "unquote" (.ref 66) := (G.fn _ (List.getElem_mem (l := fnTab) (n := 1) (by decide))).1
theorem d_unquote : DefIs base 66 (fnData P0 16 66) := (G.fn _ (List.getElem_mem (l := fnTab) (n := 1) (by decide))).2.1
theorem n_quote : GlobIs P0 w base "quote" (.ref 73) := (G.fn _ (List.getElem_mem (l := fnTab) (n := 2) (by decide))).1
theorem d_quote : DefIs base 73 (fnData P0 17 73) := (G.fn _ (List.getElem_mem (l := fnTab) (n := 2) (by decide))).2.1
theorem n_header_encode : GlobIs P0 w base "header_encode" (.ref 81) := (G.fn _ (List.getElem_mem (l := fnTab) (n := 3) (by decide))).1
theorem d_header_encode : DefIs base 81 (fnData P0 18 81) := (G.fn _ (List.getElem_mem (l := fnTab) (n := 3) (by decide))).2.1
theorem n_unquote_match : GlobIs P0 w base "_unquote_match" (.ref 93) := (G.fn _ (List.getElem_mem (l := fnTab) (n := 4) (by decide))).1
theorem d_unquote_match : DefIs base 93 (fnData P0 22 93) := (G.fn _ (List.getElem_mem (l := fnTab) (n := 4) (by decide))).2.1
theorem n_header_decode : GlobIs P0 w base "header_decode" (.ref 100) := (G.fn _ (List.getElem_mem (l := fnTab) (n := 5) (by decide))).1
theorem d_header_decode : DefIs base 100 (fnData P0 23 100) := (G.fn _ (List.getElem_mem (l := fnTab) (n := 5) (by decide))).2.1
theorem n_parse_keqv_list : GlobIs P0 w base "parse_keqv_list" (.ref 107) := (G.fn _ (List.getElem_mem (l := fnTab) (n := 6) (by decide))).1
theorem d_parse_keqv_list : DefIs base 107 (fnData P0 25 107) := (G.fn _ (List.getElem_mem (l := fnTab) (n := 6) (by decide))).2.1
theorem n_law_cell : GlobIs P0 w base "_law_cell" (.ref 114) := (G.fn _ (List.getElem_mem (l := fnTab) (n := 7) (by decide))).1
theorem d_law_cell : DefIs base 114 (fnData P0 27 114) := (G.fn _ (List.getElem_mem (l := fnTab) (n := 7) (by decide))).2.1
theorem n_law_order : GlobIs P0 w base "_law_order" (.ref 121) := (G.fn _ (List.getElem_mem (l := fnTab) (n := 8) (by decide))).1
theorem d_law_order : DefIs base 121 (fnData P0 28 121) := (G.fn _ (List.getElem_mem (l := fnTab) (n := 8) (by decide))).2.1
theorem n_law_figures : GlobIs P0 w base "_law_figures" (.ref 128) := (G.fn _ (List.getElem_mem (l := fnTab) (n := 9) (by decide))).1
theorem d_law_figures : DefIs base 128 (fnData P0 29 128) := (G.fn _ (List.getElem_mem (l := fnTab) (n := 9) (by decide))).2.1
theorem n_law_written : GlobIs P0 w base "_law_written" (.ref 135) := (G.fn _ (List.getElem_mem (l := fnTab) (n := 10) (by decide))).1
theorem d_law_written : DefIs base 135 (fnData P0 30 135) := (G.fn _ (List.getElem_mem (l := fnTab) (n := 10) (by decide))).2.1
theorem n_law_rows : GlobIs P0 w base "_law_rows" (.ref 140) := (G.fn _ (List.getElem_mem (l := fnTab) (n := 11) (by decide))).1
theorem d_law_rows : DefIs base 140 (fnData P0 31 140) := (G.fn _ (List.getElem_mem (l := fnTab) (n := 11) (by decide))).2.1
theorem n_law_four : GlobIs P0 w base "_law_four" (.ref 147) := (G.fn _ (List.getElem_mem (l := fnTab) (n := 12) (by decide))).1
theorem d_law_four : DefIs base 147 (fnData P0 32 147) := (G.fn _ (List.getElem_mem (l := fnTab) (n := 12) (by decide))).2.1
theorem n_law_first : GlobIs P0 w base "_law_first" (.ref 154) := (G.fn _ (List.getElem_mem (l := fnTab) (n := 13) (by decide))).1
theorem d_law_first : DefIs base 154 (fnData P0 33 154) := (G.fn _ (List.getElem_mem (l := fnTab) (n := 13) (by decide))).2.1
theorem n_law_office : GlobIs P0 w base "_law_office" (.ref 159) := (G.fn _ (List.getElem_mem (l := fnTab) (n := 14) (by decide))).1
theorem d_law_office : DefIs base 159 (fnData P0 34 159) := (G.fn _ (List.getElem_mem (l := fnTab) (n := 14) (by decide))).2.1
theorem n_law_mates : GlobIs P0 w base "_law_mates" (.ref 164) := (G.fn _ (List.getElem_mem (l := fnTab) (n := 15) (by decide))).1
theorem d_law_mates : DefIs base 164 (fnData P0 35 164) := (G.fn _ (List.getElem_mem (l := fnTab) (n := 15) (by decide))).2.1
theorem n_law_refused : GlobIs P0 w base "_law_refused" (.ref 171) := (G.fn _ (List.getElem_mem (l := fnTab) (n := 16) (by decide))).1
theorem d_law_refused : DefIs base 171 (fnData P0 36 171) := (G.fn _ (List.getElem_mem (l := fnTab) (n := 16) (by decide))).2.1
theorem n_law_pairings : GlobIs P0 w base "_law_pairings" (.ref 176) := (G.fn _ (List.getElem_mem (l := fnTab) (n := 17) (by decide))).1
theorem d_law_pairings : DefIs base 176 (fnData P0 37 176) := (G.fn _ (List.getElem_mem (l := fnTab) (n := 17) (by decide))).2.1
theorem n_law : GlobIs P0 w base "law" (.ref 181) := (G.fn _ (List.getElem_mem (l := fnTab) (n := 18) (by decide))).1
theorem d_law : DefIs base 181 (fnData P0 38 181) := (G.fn _ (List.getElem_mem (l := fnTab) (n := 18) (by decide))).2.1
theorem o_unquote_match : base.get? 93 = some (fnObj P0 22 93) := (G.fn _ (List.getElem_mem (l := fnTab) (n := 4) (by decide))).2.2
theorem n_TICK : GlobIs P0 w base "TICK" (.str "'" 284) := G.dat _ (List.getElem_mem (l := datTab) (n := 0) (by decide))
theorem n_twin_re_1 : GlobIs P0 w base "_twin_re_1" (.ref 43) := G.dat _ (List.getElem_mem (l := datTab) (n := 1) (by decide))
theorem n_QUOPRI_MAP : GlobIs P0 w base "_QUOPRI_MAP" (.ref 46) := G.dat _ (List.getElem_mem (l := datTab) (n := 2) (by decide))
theorem n_QUOPRI_HEADER_MAP : GlobIs P0 w base "_QUOPRI_HEADER_MAP" (.ref 51) := G.dat _ (List.getElem_mem (l := datTab) (n := 3) (by decide))
theorem b_len : GlobIs P0 w base "len" (.builtin "len") := by have := G.bf _ (List.getElem_mem (l := bltF) (n := 0) (by decide)); rwa [show (bltF[0]).toString = "len" from by decide +kernel] at this
theorem b_chr : GlobIs P0 w base "chr" (.builtin "chr") := by have := G.bf _ (List.getElem_mem (l := bltF) (n := 1) (by decide)); rwa [show (bltF[1]).toString = "chr" from by decide +kernel] at this
theorem b_ord : GlobIs P0 w base "ord" (.builtin "ord") := by have := G.bf _ (List.getElem_mem (l := bltF) (n := 2) (by decide)); rwa [show (bltF[2]).toString = "ord" from by decide +kernel] at this
theorem b_isinstance : GlobIs P0 w base "isinstance" (.builtin "isinstance") := by have := G.bf _ (List.getElem_mem (l := bltF) (n := 3) (by decide)); rwa [show (bltF[3]).toString = "isinstance" from by decide +kernel] at this
theorem b_sum : GlobIs P0 w base "sum" (.builtin "sum") := by have := G.bf _ (List.getElem_mem (l := bltF) (n := 4) (by decide)); rwa [show (bltF[4]).toString = "sum" from by decide +kernel] at this
theorem b_min : GlobIs P0 w base "min" (.builtin "min") := by have := G.bf _ (List.getElem_mem (l := bltF) (n := 5) (by decide)); rwa [show (bltF[5]).toString = "min" from by decide +kernel] at this
theorem b_max : GlobIs P0 w base "max" (.builtin "max") := by have := G.bf _ (List.getElem_mem (l := bltF) (n := 6) (by decide)); rwa [show (bltF[6]).toString = "max" from by decide +kernel] at this
theorem b_range : GlobIs P0 w base "range" (.type "range") := by have := G.bt _ (List.getElem_mem (l := bltT) (n := 0) (by decide)); rwa [show (bltT[0]).toString = "range" from by decide +kernel] at this
theorem b_bytes : GlobIs P0 w base "bytes" (.type "bytes") := by have := G.bt _ (List.getElem_mem (l := bltT) (n := 1) (by decide)); rwa [show (bltT[1]).toString = "bytes" from by decide +kernel] at this
theorem b_str : GlobIs P0 w base "str" (.type "str") := by have := G.bt _ (List.getElem_mem (l := bltT) (n := 2) (by decide)); rwa [show (bltT[2]).toString = "str" from by decide +kernel] at this
theorem b_list : GlobIs P0 w base "list" (.type "list") := by have := G.bt _ (List.getElem_mem (l := bltT) (n := 3) (by decide)); rwa [show (bltT[3]).toString = "list" from by decide +kernel] at this
theorem b_int : GlobIs P0 w base "int" (.type "int") := by have := G.bt _ (List.getElem_mem (l := bltT) (n := 4) (by decide)); rwa [show (bltT[4]).toString = "int" from by decide +kernel] at this
theorem b_ValueError : GlobIs P0 w base "ValueError" (.type "ValueError") := by have := G.bt _ (List.getElem_mem (l := bltT) (n := 5) (by decide)); rwa [show (bltT[5]).toString = "ValueError" from by decide +kernel] at this
theorem o_map : base.get? 46 = some (oList mapItems 256) := G.obj _ (List.getElem_mem (l := objTab) (n := 0) (by decide))
theorem o_head : base.get? 51 = some (oList headItems 0) := G.obj _ (List.getElem_mem (l := objTab) (n := 1) (by decide))
theorem o_code : base.get? 42 = some codeObj := G.obj _ (List.getElem_mem (l := objTab) (n := 2) (by decide))
theorem o_pat : base.get? 43 = some patObj := G.obj _ (List.getElem_mem (l := objTab) (n := 3) (by decide))
theorem o_dflt : base.get? 74 = some { cls := .type "tuple", data := .seq #[.str "iso-8859-1" 1880] } := G.obj _ (List.getElem_mem (l := objTab) (n := 4) (by decide))
end Gl
end Mine
end
section
open PySem PySem.W PyProof.Rows PySem.Builtin.Str PySem.Builtin
namespace Mine
noncomputable def figL (n : Nat) : List Nat := [hexC (n / 16), hexC (n % 16)]
theorem Ev.strS {prog : Program} {w : World} {base : Heap} {k : Nat} {env : Env} {V : List (Str × D)} {x : Str} {n : Nat} {p : Pos} {l : List Nat} (h : x = S l) : Ev prog w base k env V (.Constant (.str x) n p) (.str (S l)) := h ▸ Ev.str
theorem op_catS {prog : Program} {w : World} {base : Heap} {k : Nat} {a b : List Nat} (h : a.length + b.length ≤ 5000) : Op2 prog w base k (binaryOp .Add) (.str (S a)) (.str (S b)) (.str (S (a ++ b))) := by
  rw [← S_app]
  exact op_cat (by rw [S_app, S_len, List.length_append, sizeLine_eq]; omega)
theorem noPy {a : Int} {b : Nat} (h : b ≤ 16) (hb : b ≠ 0) : Builtin.divisionGoesByPylong a b = false := by
  have : ∀ i : Fin 17, decide ((if ((i.val : Int) == 0) = true then 0 else (i.val : Int).natAbs.log2 / 30 + 1) > 300) = false := by decide +kernel
  unfold Builtin.divisionGoesByPylong
  have := this ⟨b, by omega⟩
  simp only at this
  dsimp only
  rw [this]
  rfl
theorem divN {prog : Program} {w : World} {base : Heap} {k : Nat} {a : Int} {b : Nat} (h : b ≤ 16) (hb : b ≠ 0) : Op2 prog w base k (binaryOp .FloorDiv) (.int a) (.int b) (.int (a / b)) := by
  have := op_div (prog := prog) (w := w) (base := base) (k := k) (a := a) (b := b) (by omega) (noPy h hb)
  rwa [Int.fdiv_eq_ediv_of_nonneg _ (by omega)] at this
theorem modN {prog : Program} {w : World} {base : Heap} {k : Nat} {a : Int} {b : Nat} (hb : b ≠ 0) : Op2 prog w base k (binaryOp .Mod) (.int a) (.int b) (.int (a % b)) := by
  have := op_mod (prog := prog) (w := w) (base := base) (k := k) (a := a) (b := b) (by omega)
  rwa [Int.fmod_eq_emod_of_nonneg _ (by omega)] at this
/-- a sign of a text at a place -/
theorem g_strS {prog : Program} {w : World} {base : Heap} {k : Nat} {l : List Nat} {i c : Nat} (hc : l[i]? = some c) (hl : l.length ≤ 5000) : Op2 prog w base k getItem (.str (S l)) (.int (i : Int)) (.str (S [c])) := by
  obtain ⟨hi, e⟩ := List.getElem?_eq_some_iff.mp hc
  refine g_str (c := c) ?_ ?_
  · simp only [Bool.or_eq_false_iff, decide_eq_false_iff_not]; omega
  · have : seqIndex? (i : Int) (S l).length = some i := by
      unfold seqIndex?
      rw [S_len]
      have h0 : ¬ (i : Int) < 0 := by omega
      simp only [h0, if_false]
      rw [if_pos (by simp; omega)]
      simp
    rw [this]
    simpa using hc
theorem g_strNeg1 {prog : Program} {w : World} {base : Heap} {k : Nat} {l : List Nat} {c : Nat} (hc : l.getLast? = some c) (hl : l.length ≤ 5000) : Op2 prog w base k getItem (.str (S l)) (.int (-1)) (.str (S [c])) := by
  have hne : l ≠ [] := by intro e; rw [e] at hc; cases hc
  have hpos : 0 < l.length := List.length_pos_iff.mpr hne
  refine g_str (c := c) (by decide) ?_
  have : seqIndex? (-1) (S l).length = some (l.length - 1) := by
    unfold seqIndex?
    rw [S_len]
    have h1 : ((-1 : Int) < 0) := by decide
    simp only [h1, if_true]
    rw [if_pos (by simp; omega)]
    congr 1
    omega
  rw [this]
  rw [List.getLast?_eq_getElem?] at hc
  simpa using hc
noncomputable def hexA : List Nat := [48, 49, 50, 51, 52, 53, 54, 55, 56, 57, 65, 66, 67, 68, 69, 70]
theorem hexA_at {i : Nat} (h : i < 16) : hexA[i]? = some (hexC i) := by
  have : ∀ i : Fin 16, hexA[i.val]? = some (hexC i.val) := by decide +kernel
  exact this ⟨i, h⟩
section
variable {w : World} {base : Heap} {k : Nat}
theorem def_figures {n : Nat} (G : Gl w base) (hn : n < 256) : OpL P0 w base (k + 1) (fun vs => call (.ref 128) vs) [.int n] (.str (S (figL n))) := by
  refine OpL.def (ps := ["octet"]) G.d_law_figures (by with_unfolding_all rfl) (fun vals h => ?_) (by decide +kernel) (by decide) rfl fun base' L hb => ?_
  · obtain ⟨v, rfl⟩ := len1 h
    with_unfolding_all rfl
  · refine Ex.ret (d := .str (S (figL n))) ?_ rfl
    refine Ev.binop (a := .str (S [hexC (n / 16)])) (b := .str (S [hexC (n % 16)])) ?_ ?_ (op_catS (by show 1 + 1 ≤ 5000; decide))
    · exact Ev.sub (a := .str (S hexA)) (b := .int ((n / 16 : Nat) : Int)) (Ev.strS (by decide +kernel)) (Ev.binop (a := .int n) (b := .int 16) (Ev.name rfl) Ev.int (divN (a := n) (b := 16) (by decide) (by decide))) (g_strS (hexA_at (by omega)) (by decide))
    · exact Ev.sub (a := .str (S hexA)) (b := .int ((n % 16 : Nat) : Int)) (Ev.strS (by decide +kernel)) (Ev.binop (a := .int n) (b := .int 16) (Ev.name rfl) Ev.int (modN (a := n) (b := 16) (by decide))) (g_strS (hexA_at (by omega)) (by decide))
end
end Mine
end
section
open PySem PySem.W PyProof.Rows PySem.Builtin.Str PySem.Builtin
namespace Mine
noncomputable def quoteL (n : Nat) : List Nat := 61 :: figL n
theorem map_all : mapItems.length = 256 ∧ ((List.range 256).all fun i => (mapItems[i]?).any (strIs (quoteL i))) = true := by
  constructor <;> decide +kernel
theorem map_rep {P : World} {X : Addr → Prop} {h : Heap} : RepAll P X h mapItems ((List.range 256).map fun i => D.str (S (quoteL i))) := by
  refine RepAll.of_get (by rw [map_all.1]; simp) fun i v d a b => ?_
  have hi : i < 256 := by
    rcases Nat.lt_or_ge i 256 with h | h
    · exact h
    · rw [List.getElem?_eq_none (by simp [h])] at b; cases b
  have := List.all_eq_true.mp map_all.2 i (List.mem_range.mpr hi)
  rw [a] at this
  simp only [Option.any_some] at this
  simp [hi] at b
  subst b
  exact rep_of_strIs this
noncomputable def decodeD (l : List Nat) : D := if (spl 39 2 l).length ≤ 2 then .tup [.none, .none, .str (S l)] else .list ((spl 39 2 l).map fun x => D.str (S x))
theorem spl_len (c : Nat) : ∀ (n : Nat) (l : List Nat), (spl c n l).length ≤ n + 1
  | 0, [] => Nat.le_refl _
  | _ + 1, [] => by simp [spl]
  | 0, _ :: _ => Nat.le_refl _
  | n + 1, a :: r => by
    rw [spl]
    split
    · have := spl_len c n r; simp; omega
    · have := spl_len c (n + 1) r
      obtain ⟨h, t, e⟩ := spl_ne c (n + 1) r
      rw [e] at this ⊢; simpa using this
theorem c_splitN {prog : Program} {w : World} {base : Heap} {k : Nat} {l : List Nat} {c n : Nat} (hc : c < 256) (hn : n ≤ 1000) (hl : l.length ≤ 5000) : OpL prog w base k (fun vs => call (.builtin "str.split") vs) [.str (S l), .str (S [c]), .int (n : Int)] (.list ((spl c n l).map fun x => D.str (S x))) := by
  have := c_splitMax (prog := prog) (w := w) (base := base) (k := k) (x := S l) (y := S [c]) (n := n) rfl (by simp only [Bool.or_eq_false_iff, decide_eq_false_iff_not]; omega) (by rw [S_len, sizeLine_eq]; omega)
  rw [splitMax_S hc, List.map_map] at this
  exact this
theorem c_splitA {prog : Program} {w : World} {base : Heap} {k : Nat} {l : List Nat} {c : Nat} (hc : c < 256) (hl : l.length ≤ 5000) : OpL prog w base k (fun vs => call (.builtin "str.split") vs) [.str (S l), .str (S [c])] (.list ((spl c (l.length + 1) l).map fun x => D.str (S x))) := by
  have := c_split (prog := prog) (w := w) (base := base) (k := k) (x := S l) (y := S [c]) rfl (by rw [S_len, sizeLine_eq]; omega)
  rw [split_S hc, List.map_map] at this
  exact this
theorem strne (a : String) (h : a ≠ "") : a ≠ "" := h
noncomputable def dfltCells : List Int := [39, 12, 13, 0, 1, 12, 3, 2]
noncomputable def cellL (ns : List Int) (p : Nat) : Int := if p < ns.length then ns.getD p 0 else dfltCells.getD p 0
section
variable {w : World} {base : Heap} {k : Nat}
theorem def_quote {n : Nat} (G : Gl w base) (hn : n < 256) : OpL P0 w base (k + 1) (fun vs => call (.ref 73) vs) [.str (S [n])] (.str (S (quoteL n))) := by
  refine OpL.def (ps := ["c"]) G.d_quote (by with_unfolding_all rfl) (fun vals h => ?_) (by decide +kernel) (by decide) rfl fun base' L hb => ?_
  · obtain ⟨v, rfl⟩ := len1 h
    with_unfolding_all rfl
  · have G := G.kp hb
    refine Ex.ret (d := .str (S (quoteL n))) ?_ rfl
    refine Ev.sub (a := .list ((List.range 256).map fun i => D.str (S (quoteL i)))) (b := .int n) (Ev.glob G.n_QUOPRI_MAP (by with_unfolding_all rfl) fun X s o => ?_) ?_ (g_list (by omega) (by omega) (by simp [hn]))
    · exact .list (vs := mapItems) (n := 256) (o.2.2 46 rfl).2 (o.1 _ _ G.o_map) map_rep
    · exact Ev.callB G.b_ord (by with_unfolding_all rfl) (Evs.cons (Ev.name rfl) Evs.nil) (c_ord (x := S [n]) rfl)
theorem def_decode {l : List Nat} (G : Gl w base) (hl : l.length ≤ 1000) : OpL P0 w base (k + 1) (fun vs => call (.ref 38) vs) [.str (S l)] (decodeD l) := by
  refine OpL.def (ps := ["s"]) G.d_decode_rfc2231 (by with_unfolding_all rfl) (fun vals h => ?_) (by decide +kernel) (by decide) rfl fun base' L hb => ?_
  · obtain ⟨v, rfl⟩ := len1 h
    with_unfolding_all rfl
  · have G := G.kp hb
    have sz := spl_len 39 2 l
    refine Ex.step (Step.assign (d := .list ((spl 39 2 l).map fun x => D.str (S x))) ?_ (by decide +kernel) rfl) ?_
    · exact Ev.meth (id := "str.split") (a := .str (S l)) (ds := [.str (S [39]), .int 2]) (Ev.name rfl) (Evs.cons (Ev.glob G.n_TICK (by with_unfolding_all rfl) fun X s _ => by rw [show S [39] = ("'" : Str) from by decide +kernel]; exact .str _ _) (Evs.cons Ev.int Evs.nil)) (strne "str" (by decide)) PySem.F.plainAttrs_str PySem.F.slot_str_split PySem.F.type_str_split
        (c_splitN (n := 2) (by decide) (by decide) (by omega))
    · have cl := c_len (prog := P0) (w := w) (base := base') (k := k) (ds := (spl 39 2 l).map fun x => D.str (S x)) (by rw [List.length_map, sizeLine_eq]; omega)
      rw [List.length_map] at cl
      by_cases h2 : (spl 39 2 l).length ≤ 2
      · refine Ex.ifT (N1 := fun _ _ => False) (Tr.of (Tr.compare (Ev.callB G.b_len (by with_unfolding_all rfl) (Evs.cons (Ev.name rfl) Evs.nil) cl) Ev.int cmp_le) (by simp; omega)) (Ex.ret (d := decodeD l) ?_ rfl) fun _ _ h => h.elim
        unfold decodeD
        rw [if_pos h2]
        exact Ev.tuple (Evs.cons Ev.none (Evs.cons Ev.none (Evs.cons (Ev.name rfl) Evs.nil))) (by show 3 ≤ sizeLine; decide)
      · refine Ex.ifF (N1 := fun V' O' => V' = _ ∧ O' = _) (Tr.of (Tr.compare (Ev.callB G.b_len (by with_unfolding_all rfl) (Evs.cons (Ev.name rfl) Evs.nil) cl) Ev.int cmp_le) (by simp; omega)) (Ex.nil ⟨rfl, rfl⟩) fun V' O' h => ?_
        obtain ⟨rfl, rfl⟩ := h
        refine Ex.ret (d := decodeD l) ?_ rfl
        unfold decodeD
        rw [if_neg h2]
        exact Ev.name rfl
/-- the script that law is given: a list of ints that we did not make -/
structure ScrOk (o : Obj) (ns : List Int) : Prop where
  cls : o.cls = .type "list"
  items : ∃ (vs : List Value) (n : Nat), o.data = .seq vs.toArray n ∧ IntsAre vs ns
  len : ns.length ≤ 1000
theorem ints_get : ∀ {vs : List Value} {ns : List Int}, IntsAre vs ns → vs.length = ns.length ∧ ∀ (i : Nat) (z : Int), ns[i]? = some z → ∃ t, vs[i]? = some (.int z t)
  | _, _, .nil => ⟨rfl, fun i z h => by simp at h⟩
  | _, _, .cons i t r => by
    obtain ⟨a, b⟩ := ints_get r
    refine ⟨by simp [a], fun j z h => ?_⟩
    cases j with
    | zero => simp at h; subst h; exact ⟨t, rfl⟩
    | succ j => simpa using b j z (by simpa using h)
theorem c_lenO {prog : Program} {o : Obj} {ns : List Int} (ho : ScrOk o ns) : OpL prog w base k (fun vs => call (.builtin "len") vs) [.obj o []] (.int ns.length) := Seal.mk fun A X s Q E vs _ _ r q => by
  obtain ⟨_, rfl, a0⟩ := r.inv1
  obtain ⟨a, rfl, nx, e, _⟩ := a0.inv
  obtain ⟨us, n, hd, ia⟩ := ho.items
  have hl : us.toArray.size = ns.length := by simp [(ints_get ia).1]
  have hz : (1000 : Nat) < 2 ^ 62 := by decide
  have := ho.len
  refine Calls.call_len_list ⟨_, e, ho.cls, n, hd⟩ (by rw [hl]; omega) ?_
  rw [hl]
  exact q _ _ (.int _ _) (.tok s _)
theorem Ev.subO {prog : Program} {env : Env} {V : List (Str × D)} {value slice : Expr} {p : Pos} {o : Obj} {ns : List Int} {i : Nat} {z : Int} (ho : ScrOk o ns) (hv : Ev prog w base k env V value (.obj o [])) (hi : Ev prog w base k env V slice (.int (i : Int))) (hz : ns[i]? = some z)
    (hs : ∀ o i, ∃ ops, subscripted slice false o i = operate ops (getItem o i) := by intro _ _; exact ⟨_, rfl⟩) :
    Ev prog w base k env V (.Subscript value slice p) (.int z) := Seal.mk fun A X s Q E g S q =>
  Subscript_ (hv.out A X s _ E g S fun v s' rv kv => hi.out A X s' _ E g (S.keeps kv) fun u s'' ri ki => by
    obtain ⟨t, rfl⟩ := ri.inv
    have rv := rv.kp ki.kp
    obtain ⟨a, rfl, nx, e, _⟩ := rv.inv
    obtain ⟨us, n, hd, ia⟩ := ho.items
    obtain ⟨l1, l2⟩ := ints_get ia
    obtain ⟨t', ht⟩ := l2 i z hz
    obtain ⟨ops, hops⟩ := hs (.ref a) (.int (i : Int) t)
    have hlt := (List.getElem?_eq_some_iff.mp hz).1
    have := ho.len
    exact tail_any (T := "list") ⟨_, e, ho.cls⟩ slot_list_getitem.lookup (wpAny_getItem_list ⟨_, e, ho.cls, n, hd⟩ (by omega) (by omega) (by simpa using ht) (q _ _ (.int z t') (kv.then ki))) hops)
set_option maxHeartbeats 4000000 in
theorem def_cell {o : Obj} {ns : List Int} {p : Nat} (G : Gl w base) (ho : ScrOk o ns) (hp : p < 8) : OpL P0 w base (k + 1) (fun vs => call (.ref 114) vs) [.obj o [], .int p] (.int (cellL ns p)) := by
  refine OpL.def (ps := ["script", "place"]) G.d_law_cell (by with_unfolding_all rfl) (fun vals h => ?_) (by decide +kernel) (by decide) rfl fun base' L hb => ?_
  · obtain ⟨v, u, rfl⟩ := len2 h
    with_unfolding_all rfl
  · have G := G.kp hb
    have cl := c_lenO (prog := P0) (w := w) (base := base') (k := k) ho
    by_cases h2 : p < ns.length
    · refine Ex.ifT (N1 := fun _ _ => False) (Tr.of (Tr.compare (a := .int p) (Ev.name rfl) (Ev.callB G.b_len (by with_unfolding_all rfl) (Evs.cons (Ev.name rfl) Evs.nil) cl) cmp_lt) (by simp; omega)) (Ex.ret (d := .int (cellL ns p)) ?_ rfl) fun _ _ h => h.elim
      have e : cellL ns p = ns.getD p 0 := if_pos h2
      exact Ev.subO (i := p) ho (Ev.name rfl) (Ev.name rfl) (by rw [e]; simp [h2])
    · refine Ex.ifF (N1 := fun V' O' => V' = _ ∧ O' = _) (Tr.of (Tr.compare (a := .int p) (Ev.name rfl) (Ev.callB G.b_len (by with_unfolding_all rfl) (Evs.cons (Ev.name rfl) Evs.nil) cl) cmp_lt) (by simp; omega)) (Ex.nil ⟨rfl, rfl⟩) fun V' O' h => ?_
      obtain ⟨rfl, rfl⟩ := h
      refine Ex.ret (d := .int (cellL ns p)) ?_ rfl
      have e : cellL ns p = dfltCells.getD p 0 := if_neg h2
      rw [e]
      refine Ev.sub (a := .list (dfltCells.map D.int)) (b := .int p) ?_ (Ev.name rfl) (g_list (by omega) (by omega) ?_)
      · exact Ev.list (Evs.cons Ev.int (Evs.cons Ev.int (Evs.cons Ev.int (Evs.cons Ev.int (Evs.cons Ev.int (Evs.cons Ev.int (Evs.cons Ev.int (Evs.cons Ev.int Evs.nil)))))))) (by show 8 ≤ sizeLine; decide)
      · rw [Int.toNat_natCast]
        match p, hp with
        | 0, _ | 1, _ | 2, _ | 3, _ | 4, _ | 5, _ | 6, _ | 7, _ => rfl
end
end Mine
end
section
open PySem PySem.W PyProof.Rows PySem.Builtin.Str PySem.Builtin
namespace Mine
theorem strCut_S (l : List Nat) {a b : Nat} (hab : a ≤ b) (hb : b ≤ l.length) : strCut (S l) (some (a : Int)) (some (b : Int)) = S ((l.drop a).take (b - a)) := by
  have h := StrLaws.sliced_plain (S l) (a := a) (b := b) hab (by rw [S_len]; exact hb)
  have e : (S l).cps.toList = l := by simp
  rw [e] at h
  unfold strCut
  split
  · rename_i hc
    have hl : (strSliceIndices (some (a : Int)) (some (b : Int)) 1 (S l).length) = (List.range (b - a)).map (fun k => a + k) := StrLaws.strSliceIndices_plain hab (by rw [S_len]; exact hb)
    rw [hl, List.length_map, List.length_range, S_len] at hc
    have h0 : a = 0 := by omega
    have h1 : b = l.length := by omega
    subst h0 h1
    simp
  · exact congrArg (fun x => S x) h
theorem sliceIdx_none (a len : Nat) : strSliceIndices (some (a : Int)) none 1 len = strSliceIndices (some (a : Int)) (some (len : Int)) 1 len := by
  simp only [strSliceIndices, sliceRange]
  have h2 : ¬ ((len : Int) < 0) := by omega
  simp [h2]
theorem strCut_from (l : List Nat) {a : Nat} (ha : a ≤ l.length) : strCut (S l) (some (a : Int)) none = S (l.drop a) := by
  have h : strCut (S l) (some (a : Int)) none = strCut (S l) (some (a : Int)) (some (l.length : Int)) := by
    unfold strCut
    rw [S_len, sliceIdx_none]
  rw [h, strCut_S l ha (Nat.le_refl _), List.take_of_length_le (by simp)]
theorem strCut_in (l : List Nat) (h2 : 2 ≤ l.length) : strCut (S l) (some 1) (some (-1)) = S ((l.drop 1).take (l.length - 2)) := by
  have h : strCut (S l) (some 1) (some (-1)) = strCut (S l) (some ((1 : Nat) : Int)) (some ((l.length - 1 : Nat) : Int)) := by
    unfold strCut
    rw [S_len, StrLaws.sliceIdx_neg_hi (some 1) l.length (by decide) (by omega), show (-1 : Int) + (l.length : Int) = ((l.length - 1 : Nat) : Int) by omega]
    rfl
  rw [h, strCut_S l (by omega) (by omega)]
  rfl
theorem Ev.sliceSS {prog : Program} {w : World} {base : Heap} {k : Nat} {env : Env} {V : List (Str × D)} {value : Expr} {lo hi : Option Expr} {sp p : Pos} {x y : List Nat} {l h : Option Int} (hv : Ev prog w base k env V value (.str (S x))) (hl : Pt prog w base k env V lo l) (hh : Pt prog w base k env V hi h)
    (e : strCut (S x) l h = S y) (hx : x.length ≤ 5000) (hs : ∀ o i, ∃ ops, subscripted (.Slice lo hi Option.none sp) false o i = operate ops (getItem o i) := by intro _ _; exact ⟨_, rfl⟩) :
    Ev prog w base k env V (.Subscript value (.Slice lo hi Option.none sp) p) (.str (S y)) := by
  rw [← e]
  exact Ev.sliceS hv hl hh (by rw [S_len, sizeLine_eq]; omega) hs
section
variable {w : World} {base : Heap} {k : Nat}
theorem def_unquote {a b : Nat} (G : Gl w base) (ha : hexSet a = true) (hb : hexSet b = true) : OpL P0 w base (k + 1) (fun vs => call (.ref 66) vs) [.str (S [61, a, b])] (.str (S [16 * hv a + hv b])) := by
  refine OpL.def (ps := ["s"]) G.d_unquote (by with_unfolding_all rfl) (fun vals h => ?_) (by decide +kernel) (by decide) rfl fun base' L hb' => ?_
  · obtain ⟨v, rfl⟩ := len1 h
    with_unfolding_all rfl
  · have G := G.kp hb'
    refine Ex.ret (d := .str (S [16 * hv a + hv b])) ?_ rfl
    have cc := c_chr (prog := P0) (w := w) (base := base') (k := k) (i := ((16 * hv a + hv b : Nat) : Int)) (by omega) (by
      have : ∀ c, hexSet c = true → hv c < 256 := fun c h => by
        have := (hex_lt h).1
        unfold hv
        split <;> (try split) <;> omega
      have h1 := this a ha
      have h2 := this b hb
      omega)
    rw [Int.toNat_natCast] at cc
    refine Ev.callB G.b_chr (by with_unfolding_all rfl) (Evs.cons ?_ Evs.nil) cc
    refine Ev.callT (ds := [.str (S [a, b]), .int 16]) G.b_int (by with_unfolding_all rfl) (Evs.cons ?_ (Evs.cons Ev.int Evs.nil)) (c_hex ha hb)
    exact Ev.sliceSS (x := [61, a, b]) (Ev.name rfl) (Pt.some Ev.int) (Pt.some Ev.int) (strCut_S [61, a, b] (a := 1) (b := 3) (by decide) (by show 3 ≤ 3; decide)) (by show 3 ≤ 5000; decide)
theorem hit_parts {x : List Nat} {p : Nat} (h : hit x.toArray p = true) : ∃ a b, hexSet a = true ∧ hexSet b = true ∧ (x.drop p).take 3 = [61, a, b] ∧ hexV (x.drop (p + 1)) = 16 * hv a + hv b := by
  unfold hit at h
  simp only [Bool.and_eq_true, decide_eq_true_eq, beq_iff_eq] at h
  obtain ⟨⟨⟨hr, h61⟩, ha⟩, hb⟩ := h
  have hr' : p + 2 < x.length := by simpa using hr
  have e0 : x.drop p = x.toArray.getD p 0 :: x.drop (p + 1) := drop_get (T := x.toArray) (by simp; omega)
  have e1 : x.drop (p + 1) = x.toArray.getD (p + 1) 0 :: x.drop (p + 1 + 1) := drop_get (T := x.toArray) (by simp; omega)
  have e2 : x.drop (p + 1 + 1) = x.toArray.getD (p + 1 + 1) 0 :: x.drop (p + 1 + 1 + 1) := drop_get (T := x.toArray) (by simp; omega)
  refine ⟨_, _, ha, hb, ?_, ?_⟩
  · rw [e0, e1, e2, h61]; rfl
  · rw [e1, e2]; rfl
theorem def_unmatch {x : List Nat} {tk : Tok} {pa ta : Addr} {p : Nat} (G : Gl w base) (hx : x.length ≤ 1000) (hh : hit x.toArray p = true) : OpL P0 w base (k + 2) (fun vs => call (.ref 93) vs) [.obj (matObj x tk pa ta) [(ta, spanObj p)]] (.str (S [hexV (x.drop (p + 1))])) := by
  obtain ⟨a, b, ha, hb, e1, e2⟩ := hit_parts hh
  rw [e2]
  refine OpL.def (ps := ["match"]) G.d_unquote_match (by with_unfolding_all rfl) (fun vals h => ?_) (by decide +kernel) (by decide) rfl fun base' L hb' => ?_
  · obtain ⟨v, rfl⟩ := len1 h
    with_unfolding_all rfl
  · have G := G.kp hb'
    have cg := c_group (prog := P0) (w := w) (base := base') (k := k + 1) (x := x) (tk := tk) (pa := pa) (ta := ta) (p := p) hx
    rw [e1] at cg
    refine Ex.step (Step.assign (d := .str (S [61, a, b])) ?_ (by decide +kernel) rfl) ?_
    · exact Ev.meth (id := "re.Match.group") (a := .obj (matObj x tk pa ta) [(ta, spanObj p)]) (ds := [.int 0]) (Ev.name rfl) (Evs.cons Ev.int Evs.nil) (strne "re.Match" (by decide)) plainAttrs_mat slot_group type_group cg
    · refine Ex.ret (d := .str (S [16 * hv a + hv b])) ?_ rfl
      exact Ev.callF G.n_unquote (by with_unfolding_all rfl) G.d_unquote.fn (Evs.cons (Ev.name rfl) Evs.nil) (def_unquote G ha hb)
end
end Mine
end
section
open PySem PySem.W PyProof.Rows PySem.Builtin.Str PySem.Builtin
namespace Mine
noncomputable def encL (cs : List Nat) (b : List UInt8) : List Nat := if b = [] then [] else [61, 63] ++ cs ++ [63, 113, 63] ++ (latin b).flatMap writL ++ [63, 61]
theorem latin_lt (b : List UInt8) : ∀ c ∈ latin b, c < 256 := fun c hc => by
  obtain ⟨x, _, rfl⟩ := List.mem_map.mp hc
  exact x.toNat_lt
theorem flat_len (b : List Nat) : (b.flatMap writL).length ≤ 3 * b.length := by
  induction b with
  | nil => simp
  | cons a r ih => have := writL_len a; simp only [List.flatMap_cons, List.length_append, List.length_cons]; omega
section
variable {w : World} {base : Heap} {k : Nat}
theorem t_bytes {b : List UInt8} (hb : b.length ≤ 1000) : OpT P0 w base k truthy (.bytes b.toArray) (decide (b ≠ [])) := Seal.mk fun A X s Q E v _ _ r q => by
  obtain ⟨_, rfl⟩ := r.inv
  refine truthy_bytes (b := b.toArray) (by simp; omega) ?_
  have e : ((b.toArray.size : Int) != 0) = decide (b ≠ []) := by cases b <;> simp; omega
  rw [e]; exact q _ (.tok s _)
noncomputable def bodyOf (i a : Nat) : List Stmt := match (fnData P0 i a).body with
  | .stmts b => b
  | _ => []
end
section
variable {prog : Program} {w : World} {base : Heap} {k : Nat} {env : Env} {V : List (Str × D)}
theorem Ev.fmtS {value : Expr} {pos : Pos} {x : List Nat} (h : Ev prog w base k env V value (.str (S x))) (hx : x.length ≤ 5000) : Ev prog w base k env V (.FormattedValue value 115 Option.none pos) (.str (S x)) := Seal.mk fun A X s Q E g St q => by
  have hz : (S x).length ≤ sizeLine := by rw [S_len, sizeLine_eq]; omega
  refine wpAny_FormattedValue_s (h.out A X s _ E g St fun v s1 rv k1 => ?_)
  obtain ⟨t, rfl⟩ := rv.inv
  show wpAny _ _ (habitSame "fstring-hands-on-the-str" (.str (S x) t)) _ _ s1
  refine habitSame_str (fun t' tk => ?_) hz
  exact PyProof.Rows.formatField_str (fun t2 tk2 => q _ _ (.str _ _) ((k1.then (.tok _ _)).then (.tok _ _))) hz
noncomputable def Jn (prog : Program) (w : World) (base : Heap) (k : Nat) (env : Env) (V : List (Str × D)) (es : List Expr) (out : List Nat) : Prop :=
  Seal (∀ (A : Around) (X : Addr → Prop) (s : Shared) (Q : Value → Shared → Prop) (E : Value → Shared → Prop) (acc : List Nat), GA k A → St w base env V X s → acc.length + out.length ≤ 5000 →
    (∀ v s', Rep w X s'.heap v (.str (S (acc ++ out))) → Ks s s' → Q v s') → wpAny (model prog w) A (joinParts (S acc) (evalEach es env)) Q E s)
theorem Jn.nil : Jn prog w base k env V [] [] := Seal.mk fun A X s Q E acc g St hl q => by
  refine joinParts_nil ?_ (by rw [S_len, sizeLine_eq]; simp at hl; omega)
  rw [List.append_nil] at q
  exact q _ _ (.str _ _) (.tok s _)
theorem Jn.cons {e : Expr} {es : List Expr} {x out : List Nat} (h : Ev prog w base k env V e (.str (S x))) (r : Jn prog w base k env V es out) : Jn prog w base k env V (e :: es) (x ++ out) := Seal.mk fun A X s Q E acc g St hl q => by
  refine joinParts_cons (x := eval e env) (rest := evalEach es env) (h.out A X s _ E g St fun v s1 rv k1 => ?_)
  obtain ⟨t, rfl⟩ := rv.inv
  have hl' : acc.length + (x.length + out.length) ≤ 5000 := by simpa using hl
  show (S acc ++ S x).length ≤ sizeLine ∧ wpAny _ _ (joinParts (S acc ++ S x) (evalEach es env)) Q E s1
  rw [S_app, S_len, sizeLine_eq, List.length_append]
  refine ⟨by omega, ?_⟩
  exact r.out A X s1 Q E (acc ++ x) g (St.keeps k1) (by rw [List.length_append]; omega) fun v s2 rv k2 => q v s2 (by rwa [List.append_assoc] at rv) (k1.then k2)
theorem Ev.joined {e1 e2 : Expr} {es : List Expr} {pos : Pos} {out : List Nat} (h : Jn prog w base k env V (e1 :: e2 :: es) out) (hl : out.length ≤ 5000) : Ev prog w base k env V (.JoinedStr (e1 :: e2 :: es) pos) (.str (S out)) := Seal.mk fun A X s Q E g St q =>
  JoinedStr_many (h.out A X s Q E [] g St (by simpa using hl) q)
end
section
variable {w : World} {base : Heap} {k : Nat}
theorem body_encode {L : Addr} {b : List UInt8} {cs : List Nat} (G : Gl w base) (hb : b.length ≤ 100) (hc : cs.length ≤ 100) : Ex P0 w base k (callEnvC (fnData P0 18 81) L 81) (bindable (fnData P0 18 81).scope.names) (List.zip ["header_bytes", "charset"] [.bytes b.toArray, .str (S cs)]) [] (bodyOf 18 81) (fun _ _ => False) (fun d' => d' = .str (S (encL cs b))) := by
  have tb := t_bytes (w := w) (base := base) (k := k) (b := b) (by omega)
  by_cases h : b = []
  · refine Ex.ifT (N1 := fun _ _ => False) (Tr.of (Tr.not (Tr.value (Ev.name rfl) tb)) (by simp [h])) (Ex.ret (d := .str (S [])) (Ev.strS (by decide +kernel)) ?_) fun _ _ h => h.elim
    unfold encL; rw [if_pos h]
  · refine Ex.ifF (N1 := fun V' O' => V' = _ ∧ O' = _) (Tr.of (Tr.not (Tr.value (Ev.name rfl) tb)) (by simp [h])) (Ex.nil ⟨rfl, rfl⟩) fun V' O' hh => ?_
    obtain ⟨rfl, rfl⟩ := hh
    have ll : (latin b).length = b.length := by simp [latin]
    have fl := flat_len (latin b)
    refine Ex.step (Step.assign (d := .str (S ((latin b).flatMap writL))) ?_ (by decide +kernel) rfl) ?_
    · refine Ev.meth (id := "str.translate") (a := .str (S (latin b))) (ds := [.list ((List.range 256).map fun i => D.str (S (writL i)))]) ?_ (Evs.cons (Ev.glob G.n_QUOPRI_HEADER_MAP (by with_unfolding_all rfl) fun X s o => .list (vs := headItems) (n := 0) (o.2.2 51 rfl).2 (o.1 _ _ G.o_head) head_rep) Evs.nil)
        (strne "str" (by decide)) PySem.F.plainAttrs_str PySem.F.slot_str_translate PySem.F.type_str_translate (c_translate (fun c hc => by simp [hc]) (latin_lt b) writL_len (by omega) (fun e => h (by simpa [latin] using e)))
      exact Ev.meth (id := "bytes.decode") (a := .bytes b.toArray) (ds := [.str (Str.ofString "latin1")]) (Ev.name rfl) (Evs.cons Ev.str Evs.nil) (strne "bytes" (by decide)) FB.plainAttrs_bytes FB.slot_bytes_decode FB.type_bytes_decode (c_latin (by omega) h)
    · refine Ex.ret (d := .str (S (encL cs b))) ?_ rfl
      have e : encL cs b = [61, 63] ++ (cs ++ ([63, 113, 63] ++ ((latin b).flatMap writL ++ ([63, 61] ++ [])))) := by unfold encL; rw [if_neg h]; simp
      rw [e]
      refine Ev.joined ?_ (by simp only [List.length_append, List.length_cons, List.length_nil]; omega)
      exact Jn.cons (Ev.strS (by decide +kernel)) (Jn.cons (Ev.fmtS (Ev.name rfl) (by omega)) (Jn.cons (Ev.strS (by decide +kernel)) (Jn.cons (Ev.fmtS (Ev.name rfl) (by omega)) (Jn.cons (Ev.strS (by decide +kernel)) Jn.nil))))
theorem def_encode2 {b : List UInt8} {cs : List Nat} (G : Gl w base) (hb : b.length ≤ 100) (hc : cs.length ≤ 100) : OpL P0 w base (k + 1) (fun vs => call (.ref 81) vs) [.bytes b.toArray, .str (S cs)] (.str (S (encL cs b))) := by
  refine (OpLT.defD (T := False) (dv := []) (dd := []) (ps := ["header_bytes", "charset"]) (body := bodyOf 18 81) (fun _ _ => .nil) G.d_header_encode (by with_unfolding_all rfl) (fun s vals hk h => ?_) (by decide +kernel) (by decide) rfl fun base' L hb' => (body_encode (G.kp hb') hb hc).toT).all
  obtain ⟨v, u, rfl⟩ := len2 h
  exact .of_defaults rfl (hk _ _ G.o_dflt) rfl rfl (by with_unfolding_all rfl)
noncomputable def isoL : List Nat := [105, 115, 111, 45, 56, 56, 53, 57, 45, 49]
theorem def_encode1 {b : List UInt8} (G : Gl w base) (hb : b.length ≤ 100) : OpL P0 w base (k + 1) (fun vs => call (.ref 81) vs) [.bytes b.toArray] (.str (S (encL isoL b))) := by
  refine (OpLT.defD (T := False) (dv := [.str "iso-8859-1" 1880]) (dd := [.str (S isoL)]) (ps := ["header_bytes", "charset"]) (body := bodyOf 18 81) (fun _ _ => .cons (by rw [show S isoL = ("iso-8859-1" : Str) from by decide +kernel]; exact .str _ _) .nil) G.d_header_encode (by with_unfolding_all rfl) (fun s vals hk h => ?_) (by decide +kernel) (by decide) rfl fun base' L hb' => (body_encode (G.kp hb') hb (by decide)).toT).all
  obtain ⟨v, rfl⟩ := len1 h
  exact .of_defaults rfl (hk _ _ G.o_dflt) rfl rfl (by with_unfolding_all rfl)
end
end Mine
end
section
open PySem PySem.W PyProof.Rows PySem.Builtin.Str PySem.Builtin
namespace Mine
section
variable {prog : Program} {w : World} {base : Heap} {k : Nat} {env : Env} {B : Str → Bool} {V O : List (Str × D)} {T U : Prop} {N : List (Str × D) → List (Str × D) → Prop} {R : D → Prop}
theorem ExT.assign {x : Str} {p p' : Pos} {e : Expr} {d : D} {rest : List Stmt} (h : EvT prog w base T U k env V e d) (hb : B x = true) (ho : O.lookup x = none) (r : ExT prog w base U k env B ((x, d) :: V) O rest N R) (hs : swapsWith e (some (.Name x p')) p.line env = pure false := by rfl) :
    ExT prog w base T k env B V O (.Assign [.Name x p'] e p :: rest) N R := Seal.mk fun A X Y s Q E g F tk q qr =>
  wpAny_execs_cons (wpAny_Assign_Name (h.out A X s _ E g F.st tk fun v s' rv ks tv => wpAny_mt (store_V (F.ks ks) (F.ow.bnd x hb) ho rv fun s'' F' t _ le =>
    r.out A X Y s'' Q E g F' (fun z => Nat.lt_of_lt_of_le (tv z) le) (fun V'' O'' X'' Y'' s3 n F'' t' => q V'' O'' X'' Y'' s3 n F'' ((t.kt ks).trans F.st.low t'))
      fun d v X'' Y'' s3 rd rv t' kp => qr d v X'' Y'' s3 rd rv ((t.kt ks).trans F.st.low t') kp)) hs)
end
section
variable {w : World} {base : Heap} {k : Nat}
noncomputable def hdecL (l : List Nat) : List Nat := decL (swapC 95 32 l)
theorem def_hdecode {l : List Nat} (G : Gl w base) (hl : l.length ≤ 1000) (hc : ∀ c ∈ l, c < 256) : OpLT True P0 w base (k + 4) (fun vs => call (.ref 100) vs) [.str (S l)] (.str (S (hdecL l))) := by
  refine OpLT.def (ps := ["s"]) G.d_header_decode (by with_unfolding_all rfl) (fun vals h => ?_) (by decide +kernel) (by decide) rfl fun base' L hb' => ?_
  · obtain ⟨v, rfl⟩ := len1 h
    with_unfolding_all rfl
  · have G := G.kp hb'
    have hl' : (swapC 95 32 l).length ≤ 1000 := by simpa [swapC] using hl
    have hc' : ∀ c ∈ swapC 95 32 l, c < 256 := fun c h => by
      obtain ⟨x, hx, rfl⟩ := List.mem_map.mp h
      split
      · decide
      · exact hc x hx
    refine ExT.assign (U := False) (EvT.replace (l := l) (c := 95) (d := 32) (by rfl) (by decide +kernel) (by decide +kernel) (by decide) (by decide) hl) (by decide +kernel) rfl ?_
    refine Ex.toT (Ex.ret (d := .str (S (hdecL l))) ?_ rfl)
    refine Ev.meth (id := "re.Pattern.sub") (a := .obj patObj []) (ds := [.at 93, .str (S (swapC 95 32 l))]) (Ev.glob G.n_twin_re_1 (by with_unfolding_all rfl) fun X s o => .obj (o.2.2 43 rfl).2 (o.1 _ _ G.o_pat) (by simp)) (Evs.cons (Ev.glob G.n_unquote_match (by with_unfolding_all rfl) fun X s o => .at 93) (Evs.cons (Ev.name rfl) Evs.nil))
      (strne "re.Pattern" (by decide)) plainAttrs_pat slot_sub type_sub ?_
    exact c_sub (k := k + 2) hc' hl' G.o_code G.o_unquote_match rfl rfl fun tk pa ta p hh => def_unmatch G hl' hh
end
end Mine
end
section
open PySem PySem.W PyProof.Rows PySem.Builtin.Str PySem.Builtin
namespace Mine
/-! the for over a row of known names -/
noncomputable def Has (V Vn : List (Str × D)) : Prop := ∀ x d, Vn.lookup x = some d → V.lookup x = some d
theorem Has.nil {V : List (Str × D)} : Has V [] := fun x d h => by simp at h
theorem Has.cons {V Vn : List (Str × D)} {y : Str} {e : D} (h : V.lookup y = some e) (r : Has V Vn) : Has V ((y, e) :: Vn) := fun x d l => by
  cases hb : x == y with
  | true => rw [List.lookup_cons, hb] at l; cases l; rw [beq_iff_eq.mp hb]; exact h
  | false => rw [List.lookup_cons, hb] at l; exact r x d l
theorem Has.under {V Vn : List (Str × D)} {y : Str} {e : D} (h : Has V Vn) : Has ((y, e) :: V) ((y, e) :: Vn) := fun x d l => by
  cases hb : x == y with
  | true => rw [List.lookup_cons, hb] at l ⊢; exact l
  | false => rw [List.lookup_cons, hb] at l ⊢; exact h x d l
section
variable {prog : Program} {w : World} {base : Heap} {k : Nat} {env : Env} {B : Str → Bool} {V V' O O' : List (Str × D)} {N : List (Str × D) → List (Str × D) → Prop} {R : D → Prop}
theorem Ex.forN {x : Str} {px p : Pos} {iter : Expr} {body rest : List Stmt} {ds : List D} (P : Nat → Prop) (Vn On : Nat → List (Str × D)) (hi : EvIt prog w base k env V iter ds) (hP : P 0) (h0 : Has V (Vn 0)) (h0' : Has O (On 0)) (hox : O.lookup x = none) (hb : B x = true)
    (turn : ∀ i d, ds[i]? = some d → P i → Ex prog w base k env B ((x, d) :: Vn i) (On i) body (fun V' O' => P (i + 1) ∧ Has V' (Vn (i + 1)) ∧ Has O' (On (i + 1)) ∧ O'.lookup x = none) R)
    (hr : P ds.length → Ex prog w base k env B (Vn ds.length) (On ds.length) rest N R) (hs : ∀ x, foldedSetIterable iter env x = pure x := by intro _; rfl) :
    Ex prog w base k env B V O (.For (.Name x px) iter body [] p :: rest) N R :=
  Ex.for hi (fun i V' O' => P i ∧ Has V' (Vn i) ∧ Has O' (On i) ∧ O'.lookup x = none) ⟨hP, h0, h0', hox⟩ hb
    (fun i d Vi Oi l h => ⟨h.2.2.2, Ex.weak (turn i d l h.1) h.2.1.under h.2.2.1⟩) (fun V' O' h => Ex.weak (hr h.1) h.2.1 h.2.2.1) hs
end
/-! parse_keqv_list -/
noncomputable def unq (v : List Nat) : List Nat := if v.head? = some 34 ∧ v.getLast? = some 34 then (v.drop 1).take (v.length - 2) else v
noncomputable def parseD (kvs : List (List Nat × List Nat)) : List (Str × D) := kvs.foldl (fun acc p => putD acc (S p.1) (.str (S (unq p.2)))) []
noncomputable def KvOk (p : List Nat × List Nat) : Prop := 61 ∉ p.1 ∧ p.2 ≠ [] ∧ (p.2 = [34] → False) ∧ p.1.length + p.2.length ≤ 1000
theorem parseD_snoc (kvs : List (List Nat × List Nat)) (p : List Nat × List Nat) : parseD (kvs ++ [p]) = putD (parseD kvs) (S p.1) (.str (S (unq p.2))) := by
  unfold parseD; rw [List.foldl_append]; rfl
theorem putD_len (a : List (Str × D)) (x : Str) (d : D) : (putD a x d).length ≤ a.length + 1 := by
  unfold putD; split <;> simp
theorem parseD_len (kvs : List (List Nat × List Nat)) : (parseD kvs).length ≤ kvs.length := by
  have : ∀ (kvs : List (List Nat × List Nat)) (acc : List (Str × D)), (kvs.foldl (fun acc p => putD acc (S p.1) (.str (S (unq p.2)))) acc).length ≤ acc.length + kvs.length := by
    intro kvs
    induction kvs with
    | nil => intro acc; simp
    | cons p r ih => intro acc; have h1 := ih (putD acc (S p.1) (.str (S (unq p.2)))); have h2 := putD_len acc (S p.1) (.str (S (unq p.2))); simp only [List.foldl_cons, List.length_cons]; omega
  simpa [parseD] using this kvs []
section
variable {w : World} {base : Heap} {k : Nat}
theorem Ev.neg1 {prog : Program} {env : Env} {V : List (Str × D)} {e : Expr} {i : Int} {p : Pos} (h : Ev prog w base k env V e (.int i)) : Ev prog w base k env V (.UnaryOp .USub e p) (.int (-i)) := Seal.mk fun A X s Q E g St q =>
  UnaryOp_ (h.out A X s _ E g St fun v s1 rv k1 => op_neg.out A X s1 Q E v g (St.keeps k1).ok rv fun u s2 ru k2 => q u s2 ru (k1.then k2))
theorem Tr.andTT {prog : Program} {env : Env} {V : List (Str × D)} {x y : Expr} {p : Pos} {a b : Bool} (hx : Tr prog w base k env V x a) (hy : a = true → Tr prog w base k env V y b) : Tr prog w base k env V (.BoolOp .And [x, y] p) (a && b) := by
  have := Tr.and (p := p) hx (b := b && true) fun ha => Tr.and (hy ha) fun _ => Tr.and_nil
  rwa [Bool.and_true] at this
noncomputable def forOf (ss : List Stmt) (i : Nat) : List Stmt := match ss[i]? with
  | some (.For _ _ b _ _) => b
  | _ => []
/-- one line of parse_keqv_list -/
theorem parse_turn {L : Addr} {p : List Nat × List Nat} {acc : List (Str × D)} {R : D → Prop} (hp : KvOk p) (ha : acc.length ≤ 1000) :
    Ex P0 w base k (callEnvC (fnData P0 25 107) L 107) (bindable (fnData P0 25 107).scope.names) [("elt", .str (S (p.1 ++ 61 :: p.2)))] [("parsed", .dict acc)] (forOf (bodyOf 25 107) 1)
      (fun V' O' => True ∧ Has V' [] ∧ Has O' [("parsed", .dict (putD acc (S p.1) (.str (S (unq p.2)))))] ∧ O'.lookup ("elt" : Str) = none) R := by
  obtain ⟨h1, h2, h3, h4⟩ := hp
  have es : spl 61 1 (p.1 ++ 61 :: p.2) = [p.1, p.2] := by rw [spl_app 0 p.2 h1]; cases p.2 <;> rfl
  have cs := c_splitN (prog := P0) (w := w) (base := base) (k := k) (l := p.1 ++ 61 :: p.2) (c := 61) (n := 1) (by decide) (by decide) (by simp; omega)
  rw [es] at cs
  refine Ex.step (Step.assignTup (d := .list [.str (S p.1), .str (S p.2)]) (Ev.meth (id := "str.split") (a := .str (S (p.1 ++ 61 :: p.2))) (ds := [.str (S [61]), .int 1]) (Ev.name rfl) (Evs.cons (Ev.strS (by decide +kernel)) (Evs.cons Ev.int Evs.nil)) (strne "str" (by decide)) PySem.F.plainAttrs_str PySem.F.slot_str_split PySem.F.type_str_split cs)
    (Tgt.tup2 (.inl rfl) (by decide +kernel) (by decide +kernel) rfl rfl)) ?_
  obtain ⟨c0, r0, e2⟩ : ∃ c r, p.2 = c :: r := List.exists_cons_of_ne_nil h2
  obtain ⟨cl, el⟩ : ∃ c, p.2.getLast? = some c := by rw [e2]; exact ⟨_, List.getLast?_eq_some_getLast (by simp)⟩
  have eh : p.2.head? = some c0 := by rw [e2]; rfl
  have hz : p.2.length ≤ 5000 := by omega
  have q1 : ∀ c : Nat, decide (S [c] = S [34]) = decide (c = 34) := fun c => by simp
  have g0 := g_strS (prog := P0) (w := w) (base := base) (k := k) (l := p.2) (i := 0) (c := c0) (by rw [e2]; rfl) hz
  have g1 := g_strNeg1 (prog := P0) (w := w) (base := base) (k := k) (l := p.2) (c := cl) el hz
  by_cases hq : c0 = 34 ∧ cl = 34
  · have hu : unq p.2 = (p.2.drop 1).take (p.2.length - 2) := by unfold unq; rw [if_pos ⟨by rw [eh, hq.1], by rw [el, hq.2]⟩]
    have h2l : 2 ≤ p.2.length := by
      rcases Nat.lt_or_ge p.2.length 2 with hlt | hge
      · exfalso
        apply h3
        rw [e2] at hlt ⊢
        have : r0 = [] := List.eq_nil_of_length_eq_zero (by simp at hlt; omega)
        rw [this, hq.1]
      · exact hge
    refine Ex.ifT (N1 := fun V' O' => V' = _ ∧ O' = _) (Tr.of (Tr.andTT (Tr.compare (Ev.sub (a := .str (S p.2)) (b := .int 0) (Ev.name rfl) Ev.int g0) (Ev.strS (l := [34]) (by decide +kernel)) cmp_seq) fun _ => Tr.compare (Ev.sub (a := .str (S p.2)) (b := .int (-1)) (Ev.name rfl) (Ev.neg1 Ev.int) g1) (Ev.strS (l := [34]) (by decide +kernel)) cmp_seq) (by simp [q1, hq.1, hq.2]))
      (Ex.step (Step.assign (d := .str (S ((p.2.drop 1).take (p.2.length - 2)))) (Ev.sliceSS (x := p.2) (Ev.name rfl) (Pt.some Ev.int) (Pt.some (Ev.neg1 Ev.int)) (strCut_in p.2 h2l) hz) (by decide +kernel) rfl) (Ex.nil ⟨rfl, rfl⟩)) fun V' O' hh => ?_
    obtain ⟨rfl, rfl⟩ := hh
    refine Ex.step (Step.setItem (kds := acc) (y := S p.1) (d := .str (S ((p.2.drop 1).take (p.2.length - 2)))) rfl (Ev.name rfl) (Ev.name rfl) (by rw [sizeLine_eq]; omega)) (Ex.nil ⟨trivial, Has.nil, Has.cons ?_ Has.nil, rfl⟩)
    rw [hu]
    rfl
  · have hu : unq p.2 = p.2 := by
      unfold unq
      rw [if_neg fun hh => hq ⟨?_, ?_⟩]
      · have := hh.1; rw [eh] at this; exact Option.some.inj this
      · have := hh.2; rw [el] at this; exact Option.some.inj this
    refine Ex.ifF (N1 := fun V' O' => V' = _ ∧ O' = _) (Tr.of (Tr.andTT (Tr.compare (Ev.sub (a := .str (S p.2)) (b := .int 0) (Ev.name rfl) Ev.int g0) (Ev.strS (l := [34]) (by decide +kernel)) cmp_seq) fun _ => Tr.compare (Ev.sub (a := .str (S p.2)) (b := .int (-1)) (Ev.name rfl) (Ev.neg1 Ev.int) g1) (Ev.strS (l := [34]) (by decide +kernel)) cmp_seq) (by
      rw [q1, q1]; simp; intro a b; exact hq ⟨a, b⟩)) (Ex.nil ⟨rfl, rfl⟩) fun V' O' hh => ?_
    obtain ⟨rfl, rfl⟩ := hh
    refine Ex.step (Step.setItem (kds := acc) (y := S p.1) (d := .str (S p.2)) rfl (Ev.name rfl) (Ev.name rfl) (by rw [sizeLine_eq]; omega)) (Ex.nil ⟨trivial, Has.nil, Has.cons ?_ Has.nil, rfl⟩)
    rw [hu]
    rfl
theorem def_parse {kvs : List (List Nat × List Nat)} (G : Gl w base) (h : ∀ p ∈ kvs, KvOk p) (hl : kvs.length ≤ 1000) : OpL P0 w base (k + 1) (fun vs => call (.ref 107) vs) [.list (kvs.map fun p => .str (S (p.1 ++ 61 :: p.2)))] (.dict (parseD kvs)) := by
  refine OpL.def (ps := ["l"]) G.d_parse_keqv_list (by with_unfolding_all rfl) (fun vals h => ?_) (by decide +kernel) (by decide) rfl fun base' L hb' => ?_
  · obtain ⟨v, rfl⟩ := len1 h
    with_unfolding_all rfl
  · have G := G.kp hb'
    refine Ex.step (Step.newDict (by decide +kernel) rfl) ?_
    refine Ex.forN (ds := kvs.map fun p => .str (S (p.1 ++ 61 :: p.2))) (fun _ => True) (fun _ => []) (fun i => [("parsed", .dict (parseD (kvs.take i)))]) (EvIt.list (Ev.name rfl)) trivial Has.nil (Has.cons rfl Has.nil) rfl (by decide +kernel) (fun i d hd _ => ?_) fun _ => ?_
    · obtain ⟨p, hp, rfl⟩ : ∃ p, kvs[i]? = some p ∧ d = .str (S (p.1 ++ 61 :: p.2)) := by
        rw [List.getElem?_map] at hd
        cases e : kvs[i]? with
        | none => rw [e] at hd; cases hd
        | some p => rw [e] at hd; exact ⟨p, rfl, (Option.some.inj hd).symm⟩
      have et : kvs.take (i + 1) = kvs.take i ++ [p] := by rw [List.take_add_one, hp]; rfl
      rw [et, parseD_snoc]
      exact parse_turn (h p (List.mem_of_getElem? hp)) (by have := parseD_len (kvs.take i); simp at this; omega)
    · refine Ex.freeze (O' := []) (x := "parsed") rfl (fun y e l => by simp at l) G.sys (Ex.ret (d := .dict (parseD kvs)) ?_ rfl)
      refine Ev.name ?_
      rw [List.length_map, List.take_of_length_le (Nat.le_refl _)]
      rfl
end
end Mine
end
section
open PySem PySem.W PyProof.Rows PySem.Builtin.Str PySem.Builtin
namespace Mine
section
variable {prog : Program} {w : World} {base : Heap} {k : Nat} {env : Env} {V : List (Str × D)}
theorem Tr.chain2 {l r1 r2 : Expr} {o1 o2 : CmpOp} {p : Pos} {a b c : D} {u v : Bool} (hl : Ev prog w base k env V l a) (h1 : Ev prog w base k env V r1 b) (q1 : Op2 prog w base k (compareOp o1) a b (.bool u)) (h2 : Ev prog w base k env V r2 c) (q2 : Op2 prog w base k (compareOp o2) b c (.bool v))
    (hm : lastMarks [o1, o2] [r1, r2] = false := by with_unfolding_all rfl) : Tr prog w base k env V (.Compare l [o1, o2] [r1, r2] p) (u && v) := Seal.mk fun A X s Q E g S q =>
  isTrue_chain (hl.out A X s _ E g S fun xa s1 ra k1 => test_link (h1.out A X s1 _ E g (S.keeps k1) fun xb s2 rb k2 => q1.out A X s2 _ E xa xb g (S.keeps (k1.then k2)).ok (ra.kp k2.kp) rb fun xc s3 rc k3 => by
    obtain rfl := rc.inv
    refine wpAny_truthy_bool ?_
    have k13 := (k1.then k2).then k3
    cases u with
    | false => exact q s3 k13
    | true =>
      exact test_last (h2.out A X s3 _ E g (S.keeps k13) fun xd s4 rd k4 => q2.out A X s4 _ E xb xd g (S.keeps (k13.then k4)).ok ((rb.kp k3.kp).kp k4.kp) rd fun xe s5 re k5 => by
        obtain rfl := re.inv
        exact wpAny_truthy_bool (q s5 ((k13.then k4).then k5))))) hm
theorem Tr.or1 {x : Expr} {p : Pos} {a : Bool} (hx : Tr prog w base k env V x a) : Tr prog w base k env V (.BoolOp .Or [x] p) a := by
  have := Tr.or (p := p) hx (b := false) fun _ => Tr.or_nil
  rwa [Bool.or_false] at this
end
section
variable {w : World} {base : Heap} {k : Nat}
theorem safe_is : ∀ n : Nat, n < 256 → ((decide ((48 : Int) ≤ (n : Int)) && decide ((n : Int) ≤ 57)) || ((decide ((65 : Int) ≤ (n : Int)) && decide ((n : Int) ≤ 90)) || ((decide ((97 : Int) ≤ (n : Int)) && decide ((n : Int) ≤ 122)) || decide ((n : Int) ∈ [(33 : Int), 42, 43, 45, 47])))) = safe n := by decide +kernel
theorem def_written {n : Nat} (G : Gl w base) (hn : n < 256) : OpL P0 w base (k + 2) (fun vs => call (.ref 135) vs) [.int n] (.str (S (writL n))) := by
  refine OpL.def (ps := ["octet"]) G.d_law_written (by with_unfolding_all rfl) (fun vals h => ?_) (by decide +kernel) (by decide) rfl fun base' L hb' => ?_
  · obtain ⟨v, rfl⟩ := len1 h
    with_unfolding_all rfl
  · have G := G.kp hb'
    by_cases h32 : n = 32
    · refine Ex.ifT (N1 := fun _ _ => False) (Tr.of (Tr.compare (a := .int n) (Ev.name rfl) Ev.int cmp_eq) (by simp [h32])) (Ex.ret (d := .str (S (writL n))) ?_ rfl) fun _ _ h => h.elim
      have e : writL n = [95] := by unfold writL; rw [if_pos h32]
      rw [e]
      exact Ev.strS (by decide +kernel)
    · refine Ex.ifF (N1 := fun V' O' => V' = _ ∧ O' = _) (Tr.of (Tr.compare (a := .int n) (Ev.name rfl) Ev.int cmp_eq) (by simp; omega)) (Ex.nil ⟨rfl, rfl⟩) fun V' O' hh => ?_
      obtain ⟨rfl, rfl⟩ := hh
      have ci := cmp_inI (prog := P0) (w := w) (base := base') (k := k + 1) (x := n) (ns := [33, 42, 43, 45, 47])
      by_cases hs : safe n = true
      · refine Ex.ifT (N1 := fun _ _ => False) (Tr.of (Tr.or (Tr.chain2 (b := .int n) Ev.int (Ev.name rfl) cmp_le Ev.int cmp_le) fun _ => Tr.or (Tr.chain2 (b := .int n) Ev.int (Ev.name rfl) cmp_le Ev.int cmp_le) fun _ => Tr.or (Tr.chain2 (b := .int n) Ev.int (Ev.name rfl) cmp_le Ev.int cmp_le) fun _ =>
          Tr.or1 (Tr.compare (a := .int n) (Ev.name rfl) (Ev.list (Evs.cons Ev.int (Evs.cons Ev.int (Evs.cons Ev.int (Evs.cons Ev.int (Evs.cons Ev.int Evs.nil))))) (by show 5 ≤ sizeLine; decide)) ci)) ?_) (Ex.ret (d := .str (S (writL n))) ?_ rfl) fun _ _ h => h.elim
        · exact (safe_is n hn).trans hs
        · have e : writL n = [n] := by unfold writL; rw [if_neg h32, if_pos hs]
          rw [e]
          have cc := c_chr (prog := P0) (w := w) (base := base') (k := k + 1) (i := (n : Int)) (by omega) (by omega)
          rw [Int.toNat_natCast] at cc
          exact Ev.callB G.b_chr (by with_unfolding_all rfl) (Evs.cons (Ev.name rfl) Evs.nil) cc
      · refine Ex.ifF (N1 := fun V' O' => V' = _ ∧ O' = _) (Tr.of (Tr.or (Tr.chain2 (b := .int n) Ev.int (Ev.name rfl) cmp_le Ev.int cmp_le) fun _ => Tr.or (Tr.chain2 (b := .int n) Ev.int (Ev.name rfl) cmp_le Ev.int cmp_le) fun _ => Tr.or (Tr.chain2 (b := .int n) Ev.int (Ev.name rfl) cmp_le Ev.int cmp_le) fun _ =>
          Tr.or1 (Tr.compare (a := .int n) (Ev.name rfl) (Ev.list (Evs.cons Ev.int (Evs.cons Ev.int (Evs.cons Ev.int (Evs.cons Ev.int (Evs.cons Ev.int Evs.nil))))) (by show 5 ≤ sizeLine; decide)) ci)) ?_) (Ex.nil ⟨rfl, rfl⟩) fun V' O' hh => ?_
        · rw [Bool.not_eq_true] at hs
          exact (safe_is n hn).trans hs
        · obtain ⟨rfl, rfl⟩ := hh
          refine Ex.ret (d := .str (S (writL n))) ?_ rfl
          have e : writL n = [61] ++ figL n := by unfold writL; rw [if_neg h32, if_neg hs]; rfl
          rw [e]
          exact Ev.binop (a := .str (S [61])) (b := .str (S (figL n))) (Ev.strS (by decide +kernel)) (Ev.callF G.n_law_figures (by with_unfolding_all rfl) G.d_law_figures.fn (Evs.cons (Ev.name rfl) Evs.nil) (def_figures G hn)) (op_catS (by show 1 + 2 ≤ 5000; decide))
end
end Mine
end
section
open PySem PySem.W PyProof.Rows PySem.Builtin.Str PySem.Builtin
namespace Mine
section
variable {prog : Program} {w : World} {base : Heap} {k : Nat} {env : Env} {B : Str → Bool} {X Y : Addr → Prop} {V V' O O' : List (Str × D)} {s s1 : Shared} {A : Around} {E : Value → Shared → Prop}
theorem VarIs.fun {h : Heap} {x : Str} {v v' : Value} (a : VarIs h env x v) (b : VarIs h env x v') : v = v' := by
  rcases a with ⟨k1, m1, ⟨o1, es1, ep1, ho1, hd1, _, hm1⟩, e1⟩ | ⟨k1, c1, l1, o1, e1, d1⟩
  · rcases b with ⟨k2, m2, ⟨o2, es2, ep2, ho2, hd2, _, hm2⟩, e2⟩ | ⟨k2, _⟩
    · rw [ho1] at ho2; cases ho2
      rw [hd1] at hd2; cases hd2
      have := (hm1 x).symm.trans (hm2 x)
      rw [e1, e2] at this
      exact Option.some.inj this
    · rw [k1] at k2; cases k2
  · rcases b with ⟨k2, _⟩ | ⟨k2, c2, l2, o2, e2, d2⟩
    · rw [k1] at k2; cases k2
    · rw [l1] at l2; cases l2
      rw [e1] at e2; cases e2
      rw [d1] at d2
      injection d2 with d2
      exact Option.some.inj d2
theorem Step.newListE {x : Str} {p p' q : Pos} {es : List Expr} {ds : List D} (h : Evs prog w base k env V es ds) (hb : B x = true) (hv : V.lookup x = none) (hsz : ds.length ≤ sizeLine) : Step prog w base k env B V O (.Assign [.Name x p'] (.List es q) p) V ((x, .list ds) :: O) := Seal.mk fun A X Y s Q E g F hq => by
  refine wpAny_Assign_Name (List_ (h.out A X s _ E q g F.st fun vs s1 rs ks => wp_newList (by rw [rs.length]; exact hsz) (store_new (d := .list ds) F (ks.then (.push0 s1 _)) (ks.none (get_size _)) ⟨vs, 0, Heap.get?_push_size _ rfl, rs.mono ⟨fun _ _ _ e => Heap.get?_push_of_some _ e, fun b o e z => z.elim id fun z => ?_⟩⟩ (F.ow.bnd x hb) hv fun s' F' t => hq _ _ s' F' t))) (by rfl)
  exact absurd (Heap.lt_size e) (by rw [z]; exact Nat.lt_irrefl _)
theorem RepAll.eraseIdx {P : World} {X : Addr → Prop} {h : Heap} : ∀ {vs : List Value} {ds : List D} (i : Nat), RepAll P X h vs ds → RepAll P X h (vs.eraseIdx i) (ds.eraseIdx i)
  | _, _, 0, .nil => .nil
  | _, _, _ + 1, .nil => .nil
  | _, _, 0, .cons _ r => r
  | _, _, i + 1, .cons a r => .cons a (RepAll.eraseIdx i r)
theorem Step.appendPop {x y : Str} {p1 p2 p3 p4 p5 p6 p7 : Pos} {e : Expr} {i : Nat} {d : D} {xs ys : List D} (hx : O.lookup x = some (.list xs)) (hy : O.lookup y = some (.list ys)) (hne : x ≠ y) (he : Ev prog w base k env V e (.int (i : Int))) (hi : ys[i]? = some d) (hsz : xs.length ≤ 5000) (hsy : ys.length ≤ 5000)
    (hbase : attributeBase (.Name x p1) "append" env (eval (.Name x p1) env) = eval (.Name x p1) env := by rfl) (hline : (p2.endLine == p3.line) = true := by rfl)
    (hbase2 : attributeBase (.Name y p5) "pop" env (eval (.Name y p5) env) = eval (.Name y p5) env := by rfl) (hline2 : (p6.endLine == p7.line) = true := by rfl)
    (ht2 : backTo p7 (starEach [e] env) = [(false, eval e env)] := by rfl)
    (htrees : backTo p3 (starEach [.Call (.Attribute (.Name y p5) "pop" p6) [e] [] p7] env) = [(false, eval (.Call (.Attribute (.Name y p5) "pop" p6) [e] [] p7) env)] := by rfl) (hin : interactive env = false := by rfl)
    (hd : (x == ("__debug__" : Str)) = false := by decide) (hd2 : (y == ("__debug__" : Str)) = false := by decide) :
    Step prog w base k env B V O (.Expr (.Call (.Attribute (.Name x p1) "append" p2) [.Call (.Attribute (.Name y p5) "pop" p6) [e] [] p7] [] p3) p4) V ((x, .list (xs ++ [d])) :: (y, .list (ys.eraseIdx i)) :: O) := Seal.mk fun A X Y s Q E g F h => by
  have hz := sizeLine_eq
  obtain ⟨a, vx, ya, nl, bd, _⟩ := F.mutate hx
  obtain ⟨b, vy, yb, nlb, bdb, mub⟩ := F.mutate hy
  refine wpAny_Expr ?_ hin (by rfl)
  refine wpAny_Call_method hbase (by rw [htrees]; rfl) hline PySem.F.plainAttrs_list PySem.F.slot_list_append PySem.F.type_list_append (name_own F.st.kind vx ?_ hd)
  obtain ⟨vs, n, e1, rs⟩ := id bd
  refine ⟨⟨_, e1, rfl⟩, fun a' ea => by cases ea; exact ⟨_, e1, rfl⟩, ?_⟩
  rw [htrees]
  refine PySem.P.append_list ?_
  refine wpAny_Call_method hbase2 (by rw [ht2]; rfl) hline2 PySem.F.plainAttrs_list PySem.F.slot_list_pop PySem.F.type_list_pop (name_own F.st.kind vy ?_ hd2)
  obtain ⟨us, m, e2, ru⟩ := id bdb
  refine ⟨⟨_, e2, rfl⟩, fun a' ea => by cases ea; exact ⟨_, e2, rfl⟩, ?_⟩
  rw [ht2]
  refine PySem.P.pop_at_list (he.out A X s _ E g F.st fun v s1 r ks => ?_)
  obtain ⟨t, rfl⟩ := r.inv
  have e2' := ks.kp _ _ e2
  have lu := ru.length
  obtain ⟨yv, hyv, ryv⟩ := ru.get hi
  have hlt : i < us.length := (List.getElem?_eq_some_iff.mp hyv).1
  have sq : seqIndex? (i : Int) us.toArray.size = some i := by
    unfold seqIndex?
    have h0 : ¬ (i : Int) < 0 := by omega
    simp only [h0, if_false]
    rw [if_pos (by simp; omega)]
    simp
  have hfit : Builtin.List.listFitsIndex (i : Int) = true := by
    unfold Builtin.List.listFitsIndex
    simp only [Bool.and_eq_true, decide_eq_true_eq]
    omega
  have hus : us.toArray.size ≤ sizeLine := by rw [List.size_toArray, hz]; omega
  have hyv' : us.toArray[i]? = some yv := by simpa using hyv
  refine ⟨us.toArray, m, _, t, i, yv, hus, rfl, e2', hfit, sq, hyv', ?_⟩
  have e3 : (s1.heap.update b (Obj.mapSeq fun xs => xs.eraseIdxIfInBounds i)).get? b = some (listObj (us.eraseIdx i) (if (us.toArray.eraseIdxIfInBounds i).size == us.toArray.size then m else m + 1)) := by
    have := IsL.update (l := b) (items := us.toArray) (n := m) e2' (fun xs => xs.eraseIdxIfInBounds i)
    rw [this]
    unfold listObj
    simp
  have sbb : Heap.SameBut b s1.heap (s1.heap.update b (Obj.mapSeq fun xs => xs.eraseIdxIfInBounds i)) := Heap.SameBut.update ..
  have xb := (F.ow.sub _ yb).1
  have fxb : Fixed X X s1.heap (s1.heap.update b (Obj.mapSeq fun xs => xs.eraseIdxIfInBounds i)) := ⟨fun c o n e => (sbb.2 c fun z => n (z ▸ xb)).trans e, fun _ _ _ q => q⟩
  obtain ⟨F2, t2⟩ := mub s1 ks _ (.list (ys.eraseIdx i)) sbb ⟨_, _, e3, ((ru.kp ks.kp).mono fxb).eraseIdx i⟩
  have hx2 : ((y, D.list (ys.eraseIdx i)) :: O).lookup x = some (.list xs) := by
    have : (x == y) = false := by simpa using hne
    rw [List.lookup_cons, this]; exact hx
  obtain ⟨a2, vx2, ya2, nl2, bd2, mu2⟩ := F2.mutate hx2
  have hab : a ≠ b := fun z => by
    subst z
    have := F.owd
    obtain ⟨ad, f, gg⟩ := this
    have h1 := (f x _ hx).1.fun vx
    have h2 := (f y _ hy).1.fun vy
    injection h1 with h1
    injection h2 with h2
    exact hne (gg x y (by rw [hx]; simp) (by rw [hy]; simp) (h1.trans h2.symm))
  have haa : a2 = a := by
    have q1 : VarIs (s1.heap.update b (Obj.mapSeq fun xs => xs.eraseIdxIfInBounds i)) env x (.ref a) := VarIs.poke (s := s1) (vx.kp ks.kp) nlb (body_nc (bdb.mono (.kp ks.kp) (ks.kp _))) sbb
    have := vx2.fun q1
    injection this
  subst haa
  obtain ⟨vs2, n2, e4, rs2⟩ := id bd2
  refine ⟨vs2.toArray, n2, by rw [List.size_toArray, rs2.length]; omega, e4, ?_⟩
  have e5 : ((s1.heap.update b (Obj.mapSeq fun xs => xs.eraseIdxIfInBounds i)).update a2 (Obj.mapSeq fun xs => xs.push yv)).get? a2 = some (listObj (vs2 ++ [yv]) (n2 + 1)) := by
    rw [Heap.get?_update_self _ e4 (by unfold listObj; rw [Obj.mapSeq_push_plain]; rfl)]; unfold listObj; rw [Obj.mapSeq_push_plain]; simp
  have sb : Heap.SameBut a2 (s1.heap.update b (Obj.mapSeq fun xs => xs.eraseIdxIfInBounds i)) ((s1.heap.update b (Obj.mapSeq fun xs => xs.eraseIdxIfInBounds i)).update a2 (Obj.mapSeq fun xs => xs.push yv)) := Heap.SameBut.update ..
  have xa := (F.ow.sub _ ya2).1
  have fx : Fixed X X (s1.heap.update b (Obj.mapSeq fun xs => xs.eraseIdxIfInBounds i)) ((s1.heap.update b (Obj.mapSeq fun xs => xs.eraseIdxIfInBounds i)).update a2 (Obj.mapSeq fun xs => xs.push yv)) := ⟨fun c o n e => (sb.2 c fun z => n (z ▸ xa)).trans e, fun _ _ _ q => q⟩
  obtain ⟨F3, t3⟩ := mu2 _ (.same _) _ (.list (xs ++ [d])) sb ⟨_, _, e5, (rs2.mono fx).append (.cons (((ryv.kp ks.kp).mono fxb).mono fx) .nil)⟩
  exact h X Y _ F3 (t2.trans F.st.low t3)
end
end Mine
end
section
open PySem PySem.W PyProof.Rows PySem.Builtin.Str PySem.Builtin
namespace Mine
noncomputable abbrev nD (l : List Nat) : List D := l.map fun n : Nat => D.int (n : Int)
structure OrdS where
  rest : List Nat
  ord : List Nat
  num : Int
noncomputable def ordStep (m : Nat) (s : OrdS) : OrdS := ⟨s.rest.eraseIdx (s.num % (m : Int)).toNat, s.ord ++ [s.rest.getD (s.num % (m : Int)).toNat 0], s.num / (m : Int)⟩
noncomputable def ordSt (z : Int) : Nat → OrdS
  | 0 => ⟨[0, 1, 2, 3], [], z⟩
  | i + 1 => ordStep (4 - i) (ordSt z i)
noncomputable def orderL (z : Int) : List Nat := (ordSt z 4).ord
theorem map_eraseIdx' {α β : Type} (f : α → β) : ∀ (l : List α) (i : Nat), (l.eraseIdx i).map f = (l.map f).eraseIdx i
  | [], _ => rfl
  | _ :: _, 0 => rfl
  | a :: r, i + 1 => by simp [List.eraseIdx, map_eraseIdx' f r i]
theorem perm_pick {α : Type} : ∀ (l : List α) (i : Nat) (h : i < l.length), (l[i] :: l.eraseIdx i).Perm l
  | a :: r, 0, _ => List.Perm.refl _
  | a :: r, i + 1, h => by
    have ih := perm_pick r i (by simpa using h)
    exact List.Perm.trans (List.Perm.swap _ _ _) (List.Perm.cons a ih)
theorem ord_inv (z : Int) : ∀ i, i ≤ 4 → (ordSt z i).rest.length = 4 - i ∧ (ordSt z i).ord.length = i ∧ ((ordSt z i).rest ++ (ordSt z i).ord).Perm [0, 1, 2, 3]
  | 0, _ => ⟨rfl, rfl, List.Perm.refl _⟩
  | i + 1, h => by
    obtain ⟨h1, h2, h3⟩ := ord_inv z i (by omega)
    have hlt : ((ordSt z i).num % ((4 - i : Nat) : Int)).toNat < (ordSt z i).rest.length := by
      rw [h1]
      have a := Int.emod_nonneg (ordSt z i).num (b := ((4 - i : Nat) : Int)) (by omega)
      have b := Int.emod_lt_of_pos (ordSt z i).num (b := ((4 - i : Nat) : Int)) (by omega)
      omega
    show ((ordSt z i).rest.eraseIdx _).length = _ ∧ ((ordSt z i).ord ++ [_]).length = _ ∧ ((ordSt z i).rest.eraseIdx _ ++ ((ordSt z i).ord ++ [_])).Perm _
    refine ⟨by rw [List.length_eraseIdx_of_lt hlt, h1]; omega, by simp [h2], ?_⟩
    refine List.Perm.trans ?_ h3
    have e : (ordSt z i).rest.getD ((ordSt z i).num % ((4 - i : Nat) : Int)).toNat 0 = (ordSt z i).rest[((ordSt z i).num % ((4 - i : Nat) : Int)).toNat] := by simp [hlt]
    rw [e, ← List.append_assoc]
    have p1 := perm_pick _ _ hlt
    refine List.Perm.trans List.perm_append_comm ?_
    show (_ :: (_ ++ _)).Perm _
    rw [← List.cons_append]
    exact List.Perm.append_right _ p1
theorem order_perm (z : Int) : (orderL z).Perm [0, 1, 2, 3] := by
  obtain ⟨h1, _, h3⟩ := ord_inv z 4 (Nat.le_refl _)
  have : (ordSt z 4).rest = [] := List.eq_nil_of_length_eq_zero h1
  rw [this] at h3
  exact h3
section
variable {w : World} {base : Heap} {k : Nat}
theorem def_order {z : Int} (G : Gl w base) : OpL P0 w base (k + 1) (fun vs => call (.ref 121) vs) [.int z] (.list (nD (orderL z))) := by
  refine OpL.def (ps := ["number"]) G.d_law_order (by with_unfolding_all rfl) (fun vals h => ?_) (by decide +kernel) (by decide) rfl fun base' L hb' => ?_
  · obtain ⟨v, rfl⟩ := len1 h
    with_unfolding_all rfl
  · have G := G.kp hb'
    refine Ex.step (Step.newListE (x := "rest") (ds := nD [0, 1, 2, 3]) (Evs.cons Ev.int (Evs.cons Ev.int (Evs.cons Ev.int (Evs.cons Ev.int Evs.nil)))) (by decide +kernel) rfl (by show 4 ≤ sizeLine; decide)) ?_
    refine Ex.step (Step.newList (by decide +kernel) rfl) ?_
    refine Ex.forN (ds := [.int 4, .int 3, .int 2, .int 1]) (fun _ => True) (fun i => [("number", .int (ordSt z i).num)]) (fun i => [("order", .list (nD (ordSt z i).ord)), ("rest", .list (nD (ordSt z i).rest))])
      (EvIt.list (Ev.list (Evs.cons Ev.int (Evs.cons Ev.int (Evs.cons Ev.int (Evs.cons Ev.int Evs.nil)))) (by show 4 ≤ sizeLine; decide))) trivial (Has.cons rfl Has.nil) (Has.cons rfl (Has.cons rfl Has.nil)) rfl (by decide +kernel) (fun i d hd _ => ?_) fun _ => ?_
    · obtain ⟨hi, rfl⟩ : i < 4 ∧ d = .int ((4 - i : Nat) : Int) := by
        match i, hd with
        | 0, hd | 1, hd | 2, hd | 3, hd => exact ⟨by decide, (Option.some.inj hd).symm⟩
      obtain ⟨h1, h2, h3⟩ := ord_inv z i (by omega)
      have a := Int.emod_nonneg (ordSt z i).num (b := ((4 - i : Nat) : Int)) (by omega)
      have b := Int.emod_lt_of_pos (ordSt z i).num (b := ((4 - i : Nat) : Int)) (by omega)
      have hlt : ((ordSt z i).num % ((4 - i : Nat) : Int)).toNat < (ordSt z i).rest.length := by omega
      have md := modN (prog := P0) (w := w) (base := base') (k := k) (a := (ordSt z i).num) (b := 4 - i) (by omega)
      have dv := divN (prog := P0) (w := w) (base := base') (k := k) (a := (ordSt z i).num) (b := 4 - i) (by omega) (by omega)
      rw [show (ordSt z i).num % ((4 - i : Nat) : Int) = (((ordSt z i).num % ((4 - i : Nat) : Int)).toNat : Int) by omega] at md
      refine Ex.step (Step.appendPop (x := "order") (y := "rest") (i := ((ordSt z i).num % ((4 - i : Nat) : Int)).toNat) (xs := nD (ordSt z i).ord) (ys := nD (ordSt z i).rest) (d := .int ((ordSt z i).rest.getD ((ordSt z i).num % ((4 - i : Nat) : Int)).toNat 0 : Nat)) rfl rfl (by decide) ?_ ?_ (by simp; omega) (by simp; omega)) ?_
      · exact Ev.binop (a := .int (ordSt z i).num) (b := .int ((4 - i : Nat) : Int)) (Ev.name rfl) (Ev.name rfl) md
      · simp [hlt]
      refine Ex.step (Step.assign (d := .int ((ordSt z i).num / ((4 - i : Nat) : Int))) (Ev.binop (a := .int (ordSt z i).num) (b := .int ((4 - i : Nat) : Int)) (Ev.name rfl) (Ev.name rfl) dv) (by decide +kernel) rfl) ?_
      refine Ex.nil ⟨trivial, Has.cons rfl Has.nil, Has.cons ?_ (Has.cons ?_ Has.nil), rfl⟩
      · have : (ordSt z (i + 1)).ord = (ordSt z i).ord ++ [(ordSt z i).rest.getD ((ordSt z i).num % ((4 - i : Nat) : Int)).toNat 0] := rfl
        rw [this]
        simp [nD, List.lookup_cons]
      · have : (ordSt z (i + 1)).rest = (ordSt z i).rest.eraseIdx ((ordSt z i).num % ((4 - i : Nat) : Int)).toNat := rfl
        have e2 : nD ((ordSt z i).rest.eraseIdx ((ordSt z i).num % ((4 - i : Nat) : Int)).toNat) = (nD (ordSt z i).rest).eraseIdx ((ordSt z i).num % ((4 - i : Nat) : Int)).toNat := map_eraseIdx' _ _ _
        rw [this, e2]
        rfl
    · refine Ex.freeze (O' := []) (x := "order") rfl (fun y e l => by simp at l) G.sys (Ex.ret (d := .list (nD (orderL z))) (Ev.name rfl) rfl)
end
end Mine
end
section
open PySem PySem.W PyProof.Rows PySem.Builtin.Str PySem.Builtin
namespace Mine
section
variable {prog : Program} {w : World} {base : Heap} {k : Nat} {env : Env} {B : Str → Bool} {V : List (Str × D)}
theorem g_listN {ds : List D} {i : Nat} {d : D} (h : ds[i]? = some d) (hi : i < 2 ^ 62 := by omega) : Op2 prog w base k getItem (.list ds) (.int (i : Int)) d := g_list (by omega) (by omega) (by simpa using h)
theorem sliceD_from {ds : List D} {a : Nat} (h : a ≤ ds.length) : sliceD ds (some (a : Int)) none = ds.drop a := by
  have e : clipAt ds.length (a : Int) = a := by unfold clipAt; rw [if_neg (by omega)]; omega
  simp only [sliceD, Option.elim, e]
  exact List.take_of_length_le (by simp)
theorem sliceD_to {ds : List D} {a : Nat} : sliceD ds none (some (a : Int)) = ds.take a := by
  by_cases h : a ≤ ds.length
  · have e : clipAt ds.length (a : Int) = a := by unfold clipAt; rw [if_neg (by omega)]; omega
    simp only [sliceD, Option.elim, e]
    simp
  · have e : clipAt ds.length (a : Int) = ds.length := by unfold clipAt; rw [if_neg (by omega)]; omega
    simp only [sliceD, Option.elim, e]
    simp [List.take_of_length_le (Nat.le_of_lt (Nat.not_le.mp h))]
theorem Ev.sliceF {value lo : Expr} {sp p : Pos} {ds : List D} {a : Nat} (hv : Ev prog w base k env V value (.list ds)) (hl : Ev prog w base k env V lo (.int (a : Int))) (ha : a ≤ ds.length) (hsz : ds.length ≤ 5000)
    (hs : ∀ o i, ∃ ops, subscripted (.Slice (some lo) Option.none Option.none sp) false o i = operate ops (getItem o i) := by intro _ _; exact ⟨_, rfl⟩) : Ev prog w base k env V (.Subscript value (.Slice (some lo) Option.none Option.none sp) p) (.list (ds.drop a)) := by
  rw [← sliceD_from ha]
  exact Ev.sliceL hv (Pt.some hl) Pt.none (by rw [sizeLine_eq]; omega) hs
theorem Ev.sliceTo {value hi : Expr} {sp p : Pos} {ds : List D} {a : Nat} (hv : Ev prog w base k env V value (.list ds)) (hl : Ev prog w base k env V hi (.int (a : Int))) (hsz : ds.length ≤ 5000)
    (hs : ∀ o i, ∃ ops, subscripted (.Slice Option.none (some hi) Option.none sp) false o i = operate ops (getItem o i) := by intro _ _; exact ⟨_, rfl⟩) : Ev prog w base k env V (.Subscript value (.Slice Option.none (some hi) Option.none sp) p) (.list (ds.take a)) := by
  rw [← sliceD_to]
  exact Ev.sliceL hv Pt.none (Pt.some hl) (by rw [sizeLine_eq]; omega) hs
theorem op_addN {a b : Nat} : Op2 prog w base k (binaryOp .Add) (.int (a : Int)) (.int (b : Int)) (.int ((a + b : Nat) : Int)) := by
  rw [Int.natCast_add]; exact op_add
/-! comprehensions over a row of known things -/
theorem CL.gen {α : Type} {elt target iter : Expr} {ifs : List Expr} {gens : List Comprehension} {scope : Scope} {pos : Pos} {j : Nat} (g f : α → D) (c : α → Bool) (Vx : α → List (Str × D)) (hj : gens[j]? = some ⟨target, iter, ifs, 0⟩) (hn : gens[j + 1]? = none) :
    ∀ (xs : List α) (ht : ∀ a ∈ xs, Tgt prog w base k env B V [] target (g a) (Vx a)) (hc : ∀ a ∈ xs, Tst prog w base k env (Vx a) ifs (c a)) (he : ∀ a ∈ xs, c a = true → Ev prog w base k env (Vx a) elt (f a)) (hv : ∀ a ∈ xs, ∀ y u, V.lookup y = some u → (Vx a).lookup y = some u),
    CL prog w base k env B (.ListComp elt gens scope pos) j V (xs.map g) ((xs.filter c).map f)
  | [], _, _, _, _ => CL.nil hj (.inl hn)
  | a :: r, ht, hc, he, hv => by
    have ih := CL.gen (elt := elt) (scope := scope) (pos := pos) g f c Vx hj hn r (fun b hb => ht b (List.mem_cons_of_mem _ hb)) (fun b hb => hc b (List.mem_cons_of_mem _ hb)) (fun b hb => he b (List.mem_cons_of_mem _ hb)) fun b hb => hv b (List.mem_cons_of_mem _ hb)
    have := CL.cons (elt := elt) (scope := scope) (pos := pos) hj hn (ht a List.mem_cons_self) (hc a List.mem_cons_self) (he a List.mem_cons_self) (hv a List.mem_cons_self) ih
    rw [List.map_cons]
    cases hca : c a with
    | true => rw [hca] at this; rw [List.filter_cons_of_pos hca]; exact this
    | false => rw [hca] at this; rw [List.filter_cons_of_neg (by simp [hca])]; exact this
theorem vx_name {x : Str} {d : D} (hx : V.lookup x = none) : ∀ y u, V.lookup y = some u → ((x, d) :: V).lookup y = some u := fun y u h => by
  have : (y == x) = false := by
    apply Bool.eq_false_iff.mpr
    intro e
    rw [beq_iff_eq.mp e, hx] at h
    cases h
  rw [List.lookup_cons, this]
  exact h
theorem CL.map {α : Type} {elt iter : Expr} {x : Str} {px : Pos} {gens : List Comprehension} {scope : Scope} {pos : Pos} {j : Nat} (g f : α → D) (xs : List α) (hj : gens[j]? = some ⟨.Name x px, iter, [], 0⟩) (hn : gens[j + 1]? = none) (hb : B x = true) (hx : V.lookup x = none)
    (he : ∀ a ∈ xs, Ev prog w base k env ((x, g a) :: V) elt (f a)) : CL prog w base k env B (.ListComp elt gens scope pos) j V (xs.map g) (xs.map f) := by
  have := CL.gen (V := V) (elt := elt) (scope := scope) (pos := pos) g f (fun _ => true) (fun a => (x, g a) :: V) hj hn xs (fun a _ => Tgt.name hb rfl) (fun a _ => Tst.nil) (fun a ha _ => he a ha) fun a _ => vx_name hx
  rwa [List.filter_eq_self.mpr (fun _ _ => rfl)] at this
theorem CL.filt {α : Type} {elt iter t : Expr} {x : Str} {px : Pos} {gens : List Comprehension} {scope : Scope} {pos : Pos} {j : Nat} (g f : α → D) (c : α → Bool) (xs : List α) (hj : gens[j]? = some ⟨.Name x px, iter, [t], 0⟩) (hn : gens[j + 1]? = none) (hb : B x = true) (hx : V.lookup x = none)
    (hc : ∀ a ∈ xs, Tr prog w base k env ((x, g a) :: V) t (c a)) (he : ∀ a ∈ xs, c a = true → Ev prog w base k env ((x, g a) :: V) elt (f a)) : CL prog w base k env B (.ListComp elt gens scope pos) j V (xs.map g) ((xs.filter c).map f) :=
  CL.gen (V := V) (elt := elt) (scope := scope) (pos := pos) g f c (fun a => (x, g a) :: V) hj hn xs (fun a _ => Tgt.name hb rfl) (fun a ha => Tst.one (hc a ha)) he fun a _ => vx_name hx
theorem CL.gen2 {α : Type} {elt target iter t' i' : Expr} {ifs ifs' : List Expr} {gens : List Comprehension} {scope : Scope} {pos : Pos} {j : Nat} (g : α → D) (c : α → Bool) (o ds' : α → List D) (Vx : α → List (Str × D)) (hj : gens[j]? = some ⟨target, iter, ifs, 0⟩) (hn : gens[j + 1]? = some ⟨t', i', ifs', 0⟩) (hs' : ∀ x, foldedSetIterable i' env x = pure x) :
    ∀ (xs : List α) (ht : ∀ a ∈ xs, Tgt prog w base k env B V [] target (g a) (Vx a)) (hc : ∀ a ∈ xs, Tst prog w base k env (Vx a) ifs (c a)) (he : ∀ a ∈ xs, c a = true → EvIt prog w base k env (Vx a) i' (ds' a)) (hl : ∀ a ∈ xs, c a = true → CL prog w base k env B (.ListComp elt gens scope pos) (j + 1) (Vx a) (ds' a) (o a))
      (hv : ∀ a ∈ xs, ∀ y u, V.lookup y = some u → (Vx a).lookup y = some u),
    CL prog w base k env B (.ListComp elt gens scope pos) j V (xs.map g) ((xs.filter c).flatMap o)
  | [], _, _, _, _, _ => CL.nil hj (.inr ⟨_, _, _, hn, hs'⟩)
  | a :: r, ht, hc, he, hl, hv => by
    have ih := CL.gen2 (elt := elt) (scope := scope) (pos := pos) g c o ds' Vx hj hn hs' r (fun b hb => ht b (List.mem_cons_of_mem _ hb)) (fun b hb => hc b (List.mem_cons_of_mem _ hb)) (fun b hb => he b (List.mem_cons_of_mem _ hb)) (fun b hb => hl b (List.mem_cons_of_mem _ hb)) fun b hb => hv b (List.mem_cons_of_mem _ hb)
    have := CL.cons_in (elt := elt) (scope := scope) (pos := pos) hj hn hs' (ht a List.mem_cons_self) (hc a List.mem_cons_self) (he a List.mem_cons_self) (hl a List.mem_cons_self) (hv a List.mem_cons_self) ih
    rw [List.map_cons]
    cases hca : c a with
    | true => rw [hca] at this; rw [List.filter_cons_of_pos hca, List.flatMap_cons]; exact this
    | false => rw [hca] at this; rw [List.filter_cons_of_neg (by simp [hca])]; exact this
theorem CL.two {α : Type} {elt iter t' i' : Expr} {x : Str} {px : Pos} {ifs' : List Expr} {scope : Scope} {pos : Pos} (g : α → D) (o ds' : α → List D) (xs : List α) (hb : B x = true) (hx : V.lookup x = none) (hs' : ∀ x, foldedSetIterable i' env x = pure x)
    (he : ∀ a ∈ xs, EvIt prog w base k env ((x, g a) :: V) i' (ds' a)) (hl : ∀ a ∈ xs, CL prog w base k env B (.ListComp elt [⟨.Name x px, iter, [], 0⟩, ⟨t', i', ifs', 0⟩] scope pos) 1 ((x, g a) :: V) (ds' a) (o a)) :
    CL prog w base k env B (.ListComp elt [⟨.Name x px, iter, [], 0⟩, ⟨t', i', ifs', 0⟩] scope pos) 0 V (xs.map g) (xs.flatMap o) := by
  have := CL.gen2 (V := V) (elt := elt) (scope := scope) (pos := pos) (gens := [⟨.Name x px, iter, [], 0⟩, ⟨t', i', ifs', 0⟩]) (j := 0) g (fun _ => true) o ds' (fun a => (x, g a) :: V) rfl rfl hs' xs (fun a _ => Tgt.name hb rfl) (fun a _ => Tst.nil) (fun a ha _ => he a ha) (fun a ha _ => hl a ha) fun a _ => vx_name hx
  rwa [List.filter_eq_self.mpr (fun _ _ => rfl)] at this
theorem CL.pairs {elt iter t : Expr} {x y : Str} {px py p : Pos} {n : Nat} {scope : Scope} {pos : Pos} (f : D) (c : Nat × Nat → Bool) (qs : List (Nat × Nat)) (hb : B x = true) (hb2 : B y = true) (hx : V.lookup x = none) (hy : V.lookup y = none) (hne : x ≠ y)
    (hc : ∀ q ∈ qs, Tr prog w base k env ((y, .int (q.2 : Int)) :: (x, .int (q.1 : Int)) :: V) t (c q)) (he : ∀ q ∈ qs, Ev prog w base k env ((y, .int (q.2 : Int)) :: (x, .int (q.1 : Int)) :: V) elt f) :
    CL prog w base k env B (.ListComp elt [⟨.Tuple [.Name x px, .Name y py] n p, iter, [t], 0⟩] scope pos) 0 V (qs.map fun q => .tup [.int (q.1 : Int), .int (q.2 : Int)]) ((qs.filter c).map fun _ => f) :=
  CL.gen (V := V) (elt := elt) (scope := scope) (pos := pos) (gens := [⟨.Tuple [.Name x px, .Name y py] n p, iter, [t], 0⟩]) (j := 0) (fun q : Nat × Nat => .tup [.int (q.1 : Int), .int (q.2 : Int)]) (fun _ => f) c (fun q => (y, .int (q.2 : Int)) :: (x, .int (q.1 : Int)) :: V) rfl rfl qs
    (fun q _ => Tgt.tup2 (.inr rfl) hb hb2 rfl rfl) (fun q hq => Tst.one (hc q hq)) (fun q hq _ => he q hq) fun q _ z u h => vx_name (by
      have : (y == x) = false := by
        apply Bool.eq_false_iff.mpr
        intro e
        exact hne (beq_iff_eq.mp e).symm
      rw [List.lookup_cons, this]; exact hy) z u (vx_name hx z u h)
end
end Mine
end
section
open PySem PySem.W PyProof.Rows PySem.Builtin.Str PySem.Builtin
namespace Mine
noncomputable abbrev sD (l : List (List Nat)) : List D := l.map fun x => D.str (S x)
noncomputable abbrev rD (n : Nat) : List D := (List.range n).map fun i : Nat => D.int (i : Int)
noncomputable def rowW (W : List (List Nat)) (k : Nat) (l : List Nat) : List (List Nat) := l.map fun j => if j < 3 then W.getD (3 + j) [] else W.getD k []
theorem get_sD {W : List (List Nat)} {i : Nat} (h : i < W.length) : (sD W)[i]? = some (.str (S (W.getD i []))) := by simp [h]
theorem get_nD {l : List Nat} {i : Nat} (h : i < l.length) : (nD l)[i]? = some (.int (l.getD i 0 : Nat)) := by simp [h]
section
variable {w : World} {base : Heap} {k : Nat}
theorem range3 {prog : Program} {w : World} {base : Heap} {k : Nat} {env : Env} {V : List (Str × D)} {rp pos p : Pos} {n m : Nat} (hg : GlobIs prog w base "range" (.type "range")) (hk : env.kindOf "range" = some .globalImplicit) (hn : m < 100) :
    EvIt prog w base k env V (.Call (.Name "range" rp) [.Constant (.int (m : Int)) n p] [] pos) (rD m) := EvIt.range hg hk Ev.int rfl (by omega)
theorem def_rows {W Os : List (List Nat)} {st : List Nat} (G : Gl w base) (hW : W.length = 6) (hO : 3 ≤ Os.length) (hOl : Os.length ≤ 100) (hs : st.length = 3) (ho : ∀ i, i < 3 → st.getD i 0 ≤ (Os.getD i []).length ∧ (Os.getD i []).length ≤ 100) :
    OpL P0 w base (k + 1) (fun vs => call (.ref 140) vs) [.list (sD W), .list (Os.map fun o => .list (nD o)), .list (nD st)] (.list ((List.range 3).map fun i => .list (sD (rowW W i ((Os.getD i []).drop (st.getD i 0)))))) := by
  refine OpL.def (ps := ["words", "orders", "starts"]) G.d_law_rows (by with_unfolding_all rfl) (fun vals h => ?_) (by decide +kernel) (by decide) rfl fun base' L hb' => ?_
  · obtain ⟨v, u, t, rfl⟩ := len3 h
    with_unfolding_all rfl
  · have G := G.kp hb'
    have hz := sizeLine_eq
    refine Ex.ret (d := .list ((List.range 3).map fun i => .list (sD (rowW W i ((Os.getD i []).drop (st.getD i 0)))))) ?_ rfl
    refine Ev.comp [("words", .list (sD W)), ("orders", .list (Os.map fun o => .list (nD o))), ("starts", .list (nD st))] ⟨rfl, rfl, rfl, rfl, rfl, rfl, trivial⟩ (EvIt.range G.b_range (by with_unfolding_all rfl) (n := 3) Ev.int) (fun s C hk => ?_) (by show 3 ≤ sizeLine; omega)
    have G := G.kp hk
    refine CL.map (α := Nat) (fun i => .int (i : Int)) (fun i => .list (sD (rowW W i ((Os.getD i []).drop (st.getD i 0))))) (List.range 3) rfl rfl (by decide +kernel) rfl fun i hi => ?_
    have hi : i < 3 := List.mem_range.mp hi
    obtain ⟨h1, h2⟩ := ho i hi
    refine Ev.comp [("words", .list (sD W)), ("k", .int (i : Int))] ⟨rfl, rfl, rfl, rfl, trivial⟩ (EvIt.list (Ev.sliceF (ds := nD (Os.getD i [])) (a := st.getD i 0) (Ev.sub (a := .list (Os.map fun o => .list (nD o))) (b := .int (i : Int)) (Ev.name rfl) (Ev.name rfl) (g_listN (by
      rw [List.getElem?_map, List.getElem?_eq_getElem (by omega)]; simp [show i < Os.length by omega])))
      (Ev.sub (a := .list (nD st)) (b := .int (i : Int)) (Ev.name rfl) (Ev.name rfl) (g_listN (get_nD (by omega)))) (by simp only [List.length_map]; exact h1) (by simp only [List.length_map]; omega))) (fun s2 C2 hk2 => ?_) (by simp only [rowW, List.length_map, List.length_drop]; omega)
    have G := G.kp hk2
    rw [← List.map_drop]
    have e : sD (rowW W i ((Os.getD i []).drop (st.getD i 0))) = ((Os.getD i []).drop (st.getD i 0)).map fun j => D.str (S (if j < 3 then W.getD (3 + j) [] else W.getD i [])) := by rw [sD, rowW, List.map_map]; rfl
    rw [e]
    refine CL.map (α := Nat) (fun j => .int (j : Int)) (fun j => D.str (S (if j < 3 then W.getD (3 + j) [] else W.getD i []))) _ rfl rfl (by decide +kernel) rfl fun j _ => ?_
    refine Ev.ifexp (b := decide (j < 3)) (Tr.of (Tr.compare (a := .int (j : Int)) (Ev.name rfl) Ev.int cmp_lt) (by simp; omega)) (fun hb => ?_) fun hb => ?_
    · have hj : j < 3 := of_decide_eq_true hb
      rw [if_pos hj]
      exact Ev.sub (a := .list (sD W)) (b := .int ((3 + j : Nat) : Int)) (Ev.name rfl) (Ev.binop (a := .int 3) (b := .int (j : Int)) Ev.int (Ev.name rfl) (op_addN (a := 3))) (g_listN (get_sD (by omega)))
    · have hj : ¬ j < 3 := of_decide_eq_false hb
      rw [if_neg hj]
      exact Ev.sub (a := .list (sD W)) (b := .int (i : Int)) (Ev.name rfl) (Ev.name rfl) (g_listN (get_sD (by omega)))
end
end Mine
end
section
open PySem PySem.W PyProof.Rows PySem.Builtin.Str PySem.Builtin
namespace Mine
theorem op_addLs {prog : Program} {w : World} {base : Heap} {k : Nat} {as bs : List D} (h : as.length + bs.length ≤ 5000) : Op2 prog w base k (binaryOp .Add) (.list as) (.list bs) (.list (as ++ bs)) := op_addL (by rw [sizeLine_eq]; omega)
theorem seqIx {i n : Nat} (h : i < n) : seqIndex? (i : Int) n = some i := by
  unfold seqIndex?
  have h0 : ¬ (i : Int) < 0 := by omega
  simp only [h0, if_false]
  rw [if_pos (by simp; omega)]
  simp
theorem g_tupN {prog : Program} {w : World} {base : Heap} {k : Nat} {ds : List D} {i : Nat} {d : D} (h : ds[i]? = some d) (hi : i < 2 ^ 62 := by omega) : Op2 prog w base k getItem (.tup ds) (.int (i : Int)) d := Seal.mk fun A X s Q E v u g _ r1 r2 q => by
  obtain ⟨t, rfl⟩ := r2.inv
  obtain ⟨a, vs, n, rfl, nx, e, rs⟩ := r1.inv
  obtain ⟨x, hx, rx⟩ := rs.get h
  have hlt : i < vs.length := (List.getElem?_eq_some_iff.mp hx).1
  exact PyProof.Rows.getItem_tuple (t := a) (items := vs.toArray) (k := (i : Int)) (j := i) ⟨_, e, rfl, n, rfl⟩ (by omega) (by omega) (seqIx (by simpa using hlt)) (by simpa using hx) (q x s rx (.same s))
theorem c_joinS {prog : Program} {w : World} {base : Heap} {k : Nat} {c : Nat} {ws : List (List Nat)} (h : ws.length + ws.flatten.length ≤ 5000) : OpL prog w base k (fun vs => call (.builtin "str.join") vs) [.str (S [c]), .list (sD ws)] (.str (S (joinL c ws))) := by
  have := c_join (prog := prog) (w := w) (base := base) (k := k) (x := S [c]) (xs := ws.map S) (by
    unfold JoinOk tooLong
    rw [StrLaws.joinTotal, sum_len_S, sizeLine_eq, List.length_map]
    have : (S [c]).length = 1 := rfl
    rw [this, Bool.not_eq_true', decide_eq_false_iff_not]
    omega)
  rw [txtjoin_S, List.map_map] at this
  exact this
theorem joinL_length (c : Nat) : ∀ ws : List (List Nat), (joinL c ws).length ≤ ws.length + ws.flatten.length
  | [] => by simp [joinL]
  | [a] => by simp [joinL]
  | a :: b :: r => by
    have := joinL_length c (b :: r)
    simp only [joinL, List.length_append, List.length_cons, List.flatten_cons] at this ⊢
    omega
theorem flat_short {ws : List (List Nat)} (h : ∀ a ∈ ws, a.length ≤ 10) : ws.flatten.length ≤ 10 * ws.length := by
  induction ws with
  | nil => simp
  | cons a r ih =>
    have h1 := h a List.mem_cons_self
    have h2 := ih fun b hb => h b (List.mem_cons_of_mem _ hb)
    simp only [List.flatten_cons, List.length_append, List.length_cons]; omega
section
variable {w : World} {base : Heap} {k : Nat}
theorem def_four {a b c d : List Nat} (G : Gl w base) (hn : ∀ x ∈ [a, b, c, d], 39 ∉ x ∧ x.length ≤ 10) : OpL P0 w base (k + 2) (fun vs => call (.ref 147) vs) [.str (S (joinL 39 [a, b, c, d]))] (.list (sD [a, b, c, d])) := by
  have ha := hn a (by simp)
  have hb := hn b (by simp)
  have hc := hn c (by simp)
  have hd := hn d (by simp)
  have e1 : spl 39 2 (joinL 39 [a, b, c, d]) = [a, b, joinL 39 [c, d]] := by
    show spl 39 2 (a ++ 39 :: (b ++ 39 :: joinL 39 [c, d])) = _
    rw [spl_app 1 _ ha.1, spl_app 0 _ hb.1]
    cases joinL 39 [c, d] <;> rfl
  have hcd : ∀ x ∈ [c, d], 39 ∉ x := fun x hx => (hn x (by simp at hx ⊢; rcases hx with h | h <;> simp [h])).1
  have e2 : spl 39 2 (joinL 39 [c, d]) = [c, d] := spl_join [c, d] 2 (by simp) hcd (by simp)
  have e3 : spl 39 ((joinL 39 [c, d]).length + 1) (joinL 39 [c, d]) = [c, d] := spl_join [c, d] _ (by simp) hcd (by simp [joinL])
  have l0 := joinL_length 39 [a, b, c, d]
  have l1 := joinL_length 39 [c, d]
  simp only [List.length_cons, List.length_nil, List.flatten_cons, List.flatten_nil, List.length_append] at l0 l1
  have d1 : decodeD (joinL 39 [a, b, c, d]) = .list (sD [a, b, joinL 39 [c, d]]) := by unfold decodeD; rw [e1]; rfl
  have d2 : decodeD (joinL 39 [c, d]) = .tup [.none, .none, .str (S (joinL 39 [c, d]))] := by unfold decodeD; rw [e2]; rfl
  refine OpL.def (ps := ["text"]) G.d_law_four (by with_unfolding_all rfl) (fun vals h => ?_) (by decide +kernel) (by decide) rfl fun base' L hb' => ?_
  · obtain ⟨v, rfl⟩ := len1 h
    with_unfolding_all rfl
  · have G := G.kp hb'
    have dc := def_decode (k := k) (l := joinL 39 [a, b, c, d]) G (by omega)
    have dc2 := def_decode (k := k) (l := joinL 39 [c, d]) G (by omega)
    rw [d1] at dc
    rw [d2] at dc2
    refine Ex.step (Step.assign (d := .list (sD [a, b, joinL 39 [c, d]])) (Ev.callF G.n_decode_rfc2231 (by with_unfolding_all rfl) G.d_decode_rfc2231.fn (Evs.cons (Ev.name rfl) Evs.nil) dc) (by decide +kernel) rfl) ?_
    have cl := c_len (prog := P0) (w := w) (base := base') (k := k + 1) (ds := sD [a, b, joinL 39 [c, d]]) (by show 3 ≤ sizeLine; decide)
    refine Ex.ifF (N1 := fun V' O' => V' = _ ∧ O' = _) (Tr.of (Tr.or (Tr.not (Tr.value (Ev.callB (ds := [.list (sD [a, b, joinL 39 [c, d]]), .typ "list"]) G.b_isinstance (by with_unfolding_all rfl) (Evs.cons (Ev.name rfl) (Evs.cons (Ev.glob G.b_list (by with_unfolding_all rfl) fun X s _ => .typ _) Evs.nil)) c_isL) t_bool)) fun _ =>
      Tr.or (Tr.compare (Ev.callB G.b_len (by with_unfolding_all rfl) (Evs.cons (Ev.name rfl) Evs.nil) cl) Ev.int cmp_ne) fun _ =>
      Tr.or1 (Tr.compare (a := .tup [.none, .none, .str (S (joinL 39 [c, d]))]) (b := .tup [.none, .none, .str (S (joinL 39 [c, d]))]) (Ev.callF G.n_decode_rfc2231 (by with_unfolding_all rfl) G.d_decode_rfc2231.fn (Evs.cons (Ev.sub (a := .list (sD [a, b, joinL 39 [c, d]])) (b := .int 2) (Ev.name rfl) Ev.int (g_listN (i := 2) rfl)) Evs.nil) dc2)
        (Ev.tuple (Evs.cons Ev.none (Evs.cons Ev.none (Evs.cons (Ev.sub (a := .list (sD [a, b, joinL 39 [c, d]])) (b := .int 2) (Ev.name rfl) Ev.int (g_listN (i := 2) rfl)) Evs.nil))) (by show 3 ≤ sizeLine; decide)) (cmp_neT (n := 1) (.cons .none (.cons .none (.cons (.str _ _) .nil))) (by decide)))) (by simp)) (Ex.nil ⟨rfl, rfl⟩) fun V' O' hh => ?_
    obtain ⟨rfl, rfl⟩ := hh
    refine Ex.ret (d := .list (sD [a, b, c, d])) ?_ rfl
    have sp := c_splitA (prog := P0) (w := w) (base := base') (k := k + 1) (l := joinL 39 [c, d]) (c := 39) (by decide) (by omega)
    rw [e3] at sp
    refine Ev.binop (a := .list (sD [a, b])) (b := .list (sD [c, d])) (Ev.sliceTo (ds := sD [a, b, joinL 39 [c, d]]) (a := 2) (Ev.name rfl) Ev.int (by simp)) ?_ (op_addLs (by simp))
    exact Ev.meth (id := "str.split") (a := .str (S (joinL 39 [c, d]))) (ds := [.str (S [39])]) (Ev.sub (a := .list (sD [a, b, joinL 39 [c, d]])) (b := .int 2) (Ev.name rfl) Ev.int (g_listN (i := 2) rfl)) (Evs.cons (Ev.strS (by decide +kernel)) Evs.nil) (strne "str" (by decide)) PySem.F.plainAttrs_str PySem.F.slot_str_split PySem.F.type_str_split sp
theorem first_short {a : List Nat} {r : List (List Nat)} {L : Addr} (G : Gl w base) (hn : ∀ x ∈ a :: r, 39 ∉ x ∧ x.length ≤ 10) (hl : r.length ≤ 1) (l0 : (joinL 39 (a :: r)).length ≤ 1000) :
    Ex P0 w base (k + 1) (callEnvC (fnData P0 33 154) L 154) (bindable (fnData P0 33 154).scope.names) (List.zip ["text"] [.str (S (joinL 39 (a :: r)))]) [] (bodyOf 33 154) (fun _ _ => False) (fun d' => d' = .tup [.str (S a), .str (S (joinL 39 r))]) := by
  have dc := def_decode (k := k) (l := joinL 39 (a :: r)) G l0
  have hc : ∀ x ∈ a :: r, 39 ∉ x := fun x hx => (hn x hx).1
  have fl := flat_short (ws := r) fun x hx => (hn x (List.mem_cons_of_mem _ hx)).2
  have e1 : spl 39 2 (joinL 39 (a :: r)) = a :: r := spl_join (a :: r) 2 (by simp) hc (by simp; omega)
  have e2 : spl 39 ((joinL 39 (a :: r)).length + 1) (joinL 39 (a :: r)) = a :: r := spl_join (a :: r) _ (by simp) hc (by have := joinL_len 39 (a :: r); omega)
  have d1 : decodeD (joinL 39 (a :: r)) = .tup [.none, .none, .str (S (joinL 39 (a :: r)))] := by unfold decodeD; rw [e1, if_pos (by simp; omega)]
  rw [d1] at dc
  refine Ex.step (Step.assign (d := .tup [.none, .none, .str (S (joinL 39 (a :: r)))]) (Ev.callF G.n_decode_rfc2231 (by with_unfolding_all rfl) G.d_decode_rfc2231.fn (Evs.cons (Ev.name rfl) Evs.nil) dc) (by decide +kernel) rfl) ?_
  refine Ex.ifF (N1 := fun V' O' => V' = _ ∧ O' = _) (Tr.of (Tr.value (Ev.callB (ds := [.tup [.none, .none, .str (S (joinL 39 (a :: r)))], .typ "list"]) G.b_isinstance (by with_unfolding_all rfl) (Evs.cons (Ev.name rfl) (Evs.cons (Ev.glob G.b_list (by with_unfolding_all rfl) fun X s _ => .typ _) Evs.nil)) c_isT) t_bool) rfl)
    (Ex.nil ⟨rfl, rfl⟩) fun V' O' hh => ?_
  obtain ⟨rfl, rfl⟩ := hh
  have sp := c_splitA (prog := P0) (w := w) (base := base) (k := k + 1) (l := joinL 39 (a :: r)) (c := 39) (by decide) (by omega)
  rw [e2] at sp
  refine Ex.step (Step.assign (d := .list (sD (a :: r))) (Ev.meth (id := "str.split") (a := .str (S (joinL 39 (a :: r)))) (ds := [.str (S [39])]) (Ev.sub (a := .tup [.none, .none, .str (S (joinL 39 (a :: r)))]) (b := .int 2) (Ev.name rfl) Ev.int (g_tupN (i := 2) rfl)) (Evs.cons (Ev.strS (by decide +kernel)) Evs.nil) (strne "str" (by decide)) PySem.F.plainAttrs_str PySem.F.slot_str_split PySem.F.type_str_split sp) (by decide +kernel) rfl) ?_
  refine Ex.ret (d := .tup [.str (S a), .str (S (joinL 39 r))]) ?_ rfl
  refine Ev.tuple (Evs.cons (Ev.sub (a := .list (sD (a :: r))) (b := .int 0) (Ev.name rfl) Ev.int (g_listN (i := 0) rfl)) (Evs.cons ?_ Evs.nil)) (by show 2 ≤ sizeLine; decide)
  exact Ev.meth (id := "str.join") (a := .str (S [39])) (ds := [.list (sD r)]) (Ev.strS (by decide +kernel)) (Evs.cons (Ev.sliceF (ds := sD (a :: r)) (a := 1) (Ev.name rfl) Ev.int (by simp) (by simp; omega)) Evs.nil) (strne "str" (by decide)) PySem.F.plainAttrs_str PySem.F.slot_str_join PySem.F.type_str_join (c_joinS (by omega))
theorem def_first {a : List Nat} {r : List (List Nat)} (G : Gl w base) (hn : ∀ x ∈ a :: r, 39 ∉ x ∧ x.length ≤ 10) (hl : r.length ≤ 3) : OpL P0 w base (k + 2) (fun vs => call (.ref 154) vs) [.str (S (joinL 39 (a :: r)))] (.tup [.str (S a), .str (S (joinL 39 r))]) := by
  have ha := hn a (by simp)
  have fl := flat_short (ws := a :: r) fun x hx => (hn x hx).2
  have l0 := joinL_length 39 (a :: r)
  simp only [List.length_cons, List.flatten_cons, List.length_append] at l0 fl
  refine OpL.def (ps := ["text"]) G.d_law_first (by with_unfolding_all rfl) (fun vals h => ?_) (by decide +kernel) (by decide) rfl fun base' L hb' => ?_
  · obtain ⟨v, rfl⟩ := len1 h
    with_unfolding_all rfl
  · have G := G.kp hb'
    match r, hn, hl, fl, l0 with
    | b :: c :: t, hn, hl, fl, l0 =>
      have dc := def_decode (k := k) (l := joinL 39 (a :: b :: c :: t)) G (by omega)
      have hb := hn b (by simp)
      have e1 : spl 39 2 (joinL 39 (a :: b :: c :: t)) = [a, b, joinL 39 (c :: t)] := by
        show spl 39 2 (a ++ 39 :: (b ++ 39 :: joinL 39 (c :: t))) = _
        rw [spl_app 1 _ ha.1, spl_app 0 _ hb.1]
        cases joinL 39 (c :: t) <;> rfl
      have d1 : decodeD (joinL 39 (a :: b :: c :: t)) = .list (sD [a, b, joinL 39 (c :: t)]) := by unfold decodeD; rw [e1]; rfl
      rw [d1] at dc
      refine Ex.step (Step.assign (d := .list (sD [a, b, joinL 39 (c :: t)])) (Ev.callF G.n_decode_rfc2231 (by with_unfolding_all rfl) G.d_decode_rfc2231.fn (Evs.cons (Ev.name rfl) Evs.nil) dc) (by decide +kernel) rfl) ?_
      refine Ex.ifT (N1 := fun _ _ => False) (Tr.of (Tr.value (Ev.callB (ds := [.list (sD [a, b, joinL 39 (c :: t)]), .typ "list"]) G.b_isinstance (by with_unfolding_all rfl) (Evs.cons (Ev.name rfl) (Evs.cons (Ev.glob G.b_list (by with_unfolding_all rfl) fun X s _ => .typ _) Evs.nil)) c_isL) t_bool) rfl)
        (Ex.ret (d := .tup [.str (S a), .str (S (joinL 39 (b :: c :: t)))]) ?_ rfl) fun _ _ h => h.elim
      have jl : joinL 39 (b :: c :: t) = b ++ [39] ++ joinL 39 (c :: t) := by simp [joinL]
      have ll : (joinL 39 (a :: b :: c :: t)).length = a.length + 1 + (b.length + 1 + (joinL 39 (c :: t)).length) := by simp [joinL]; omega
      rw [jl]
      refine Ev.tuple (Evs.cons (Ev.sub (a := .list (sD [a, b, joinL 39 (c :: t)])) (b := .int 0) (Ev.name rfl) Ev.int (g_listN (i := 0) rfl)) (Evs.cons ?_ Evs.nil)) (by show 2 ≤ sizeLine; decide)
      exact Ev.binop (a := .str (S (b ++ [39]))) (b := .str (S (joinL 39 (c :: t)))) (Ev.binop (a := .str (S b)) (b := .str (S [39])) (Ev.sub (a := .list (sD [a, b, joinL 39 (c :: t)])) (b := .int 1) (Ev.name rfl) Ev.int (g_listN (i := 1) rfl)) (Ev.strS (by decide +kernel)) (op_catS (by simp; omega)))
        (Ev.sub (a := .list (sD [a, b, joinL 39 (c :: t)])) (b := .int 2) (Ev.name rfl) Ev.int (g_listN (i := 2) rfl)) (op_catS (by simp; omega))
    | [], hn, hl, fl, l0 => exact first_short G hn (by simp) (by omega)
    | [b], hn, hl, fl, l0 => exact first_short G hn (by simp) (by omega)
end
end Mine
end
section
open PySem PySem.W PyProof.Rows PySem.Builtin.Str PySem.Builtin
namespace Mine
noncomputable abbrev nnD (l : List (List Nat)) : List D := l.map fun o => D.list (nD o)
noncomputable def rk (R : List (List Nat)) (i j : Nat) : Nat := (R.getD i []).getD j 0
noncomputable def fitL (R : List (List Nat)) (i : Nat) : List Nat := (List.range 3).filter fun j => decide (rk R i j < rk R i 3) && decide (rk R (3 + j) i < rk R (3 + j) 3)
noncomputable def picksL (R : List (List Nat)) : Nat → List (List Nat)
  | 0 => [[]]
  | i + 1 => (picksL R i).flatMap fun p => ((fitL R i ++ [3]).filter fun j => decide (j = 3) || !decide (j ∈ p)).map fun j => p ++ [j]
noncomputable def backN (p : List Nat) (j : Nat) : Nat := if j ∈ p then p.idxOf j else 3
noncomputable def pairsL (R : List (List Nat)) (p : List Nat) : List (Nat × Nat) := (List.range 3).flatMap fun i => ((List.range 3).filter fun j => decide (rk R i j < rk R i (p.getD i 0))).map fun j => (i, j)
noncomputable def stabB (R : List (List Nat)) (p : List Nat) : Bool := ((pairsL R p).filter fun q => decide (rk R (3 + q.2) q.1 < rk R (3 + q.2) (backN p q.2))).isEmpty
noncomputable def foundL (R : List (List Nat)) : List (List Nat) := (picksL R 3).filter (stabB R)
noncomputable def RanksOk (R : List (List Nat)) : Prop := R.length = 6 ∧ ∀ i, i < 6 → (R.getD i []).length = 4
theorem get_nnD {l : List (List Nat)} {i : Nat} (h : i < l.length) : (nnD l)[i]? = some (.list (nD (l.getD i []))) := by simp [h]
theorem picks_ok (R : List (List Nat)) : ∀ i, i ≤ 3 → (∀ p ∈ picksL R i, p.length = i ∧ ∀ j ∈ p, j ≤ 3) ∧ (picksL R i).length ≤ 4 ^ i
  | 0, _ => ⟨by intro p hp; simp [picksL] at hp; subst hp; simp, by show 1 ≤ 1; decide⟩
  | i + 1, h => by
    obtain ⟨h1, h2⟩ := picks_ok R i (by omega)
    refine ⟨fun p hp => ?_, ?_⟩
    · simp only [picksL, List.mem_flatMap, List.mem_map, List.mem_filter, List.mem_append, List.mem_singleton] at hp
      obtain ⟨q, hq, j, ⟨hj, _⟩, rfl⟩ := hp
      obtain ⟨a, b⟩ := h1 q hq
      refine ⟨by simp [a], fun x hx => ?_⟩
      rcases List.mem_append.mp hx with hx | hx
      · exact b x hx
      · simp at hx; subst hx
        rcases hj with hj | hj
        · simp only [fitL, List.mem_filter, List.mem_range] at hj; omega
        · omega
    · simp only [picksL]
      rw [List.length_flatMap]
      have hf : ∀ p : List Nat, (((fitL R i ++ [3]).filter fun j => decide (j = 3) || !decide (j ∈ p)).map fun j => p ++ [j]).length ≤ 4 := fun p => by
        rw [List.length_map]
        refine Nat.le_trans (List.length_filter_le _ _) ?_
        rw [List.length_append]
        have : (fitL R i).length ≤ 3 := by unfold fitL; exact Nat.le_trans (List.length_filter_le _ _) (by simp)
        simp; omega
      have : ∀ l : List (List Nat), (l.map fun p => (((fitL R i ++ [3]).filter fun j => decide (j = 3) || !decide (j ∈ p)).map fun j => p ++ [j]).length).sum ≤ 4 * l.length := by
        intro l
        induction l with
        | nil => simp
        | cons a r ih => have := hf a; simp only [List.map_cons, List.sum_cons, List.length_cons]; omega
      have := this (picksL R i)
      rw [Nat.pow_succ]; omega
theorem mem_cast {x : Nat} {l : List Nat} : ((x : Int) ∈ l.map fun n : Nat => (n : Int)) ↔ x ∈ l := by
  constructor
  · intro h
    obtain ⟨a, ha, e⟩ := List.mem_map.mp h
    have : a = x := by omega
    rwa [← this]
  · intro h
    exact List.mem_map.mpr ⟨x, h, rfl⟩
section
variable {prog : Program} {w : World} {base : Heap} {k : Nat} {env : Env} {V : List (Str × D)}
theorem c_indexN {l : List Nat} {x : Nat} (hx : x ∈ l) (hl : l.length ≤ 1000) : OpL prog w base k (fun vs => call (.builtin "list.index") vs) [.list (nD l), .int (x : Int)] (.int (l.idxOf x : Nat)) := by
  have hlt : l.idxOf x < l.length := List.idxOf_lt_length_of_mem hx
  have := c_indexI (prog := prog) (w := w) (base := base) (k := k) (ns := l.map fun n : Nat => (n : Int)) (x := (x : Int)) (j := l.idxOf x) (by
    rw [List.getElem?_map, List.getElem?_eq_getElem hlt, List.getElem_idxOf]; rfl) (fun m hm e => by
      have hm' : m < l.length := by omega
      rw [List.getElem?_map, List.getElem?_eq_getElem hm'] at e
      simp only [Option.map_some, Option.some.injEq] at e
      have e' : l[m] = x := by omega
      have := List.not_of_lt_findIdx (p := (· == x)) (xs := l) hm
      simp [e'] at this) (by omega)
  rw [List.map_map] at this
  exact this
theorem cmp_inN {x : Nat} {l : List Nat} : Op2 prog w base k (compareOp .In) (.int (x : Int)) (.list (nD l)) (.bool (decide (x ∈ l))) := by
  have := cmp_inI (prog := prog) (w := w) (base := base) (k := k) (x := (x : Int)) (ns := l.map fun n : Nat => (n : Int))
  rw [List.map_map] at this
  have e : decide ((x : Int) ∈ l.map fun n : Nat => (n : Int)) = decide (x ∈ l) := by
    rw [decide_eq_decide]; exact mem_cast
  rwa [e] at this
theorem cmp_notInN {x : Nat} {l : List Nat} : Op2 prog w base k (compareOp .NotIn) (.int (x : Int)) (.list (nD l)) (.bool (!decide (x ∈ l))) := by
  have := cmp_notInI (prog := prog) (w := w) (base := base) (k := k) (x := (x : Int)) (ns := l.map fun n : Nat => (n : Int))
  rw [List.map_map] at this
  have e : decide ((x : Int) ∈ l.map fun n : Nat => (n : Int)) = decide (x ∈ l) := by
    rw [decide_eq_decide]; exact mem_cast
  rwa [e] at this
theorem cmp_ltN {a b : Nat} : Op2 prog w base k (compareOp .Lt) (.int (a : Int)) (.int (b : Int)) (.bool (decide (a < b))) := by
  have := cmp_lt (prog := prog) (w := w) (base := base) (k := k) (a := (a : Int)) (b := (b : Int))
  have e : decide ((a : Int) < (b : Int)) = decide (a < b) := by congr 1; simp
  rwa [e] at this
theorem cmp_eqN {a b : Nat} : Op2 prog w base k (compareOp .Eq) (.int (a : Int)) (.int (b : Int)) (.bool (decide (a = b))) := by
  have := cmp_eq (prog := prog) (w := w) (base := base) (k := k) (a := (a : Int)) (b := (b : Int))
  have e : ((a : Int) == (b : Int)) = decide (a = b) := by rw [Bool.eq_iff_iff, beq_iff_eq, decide_eq_true_eq]; omega
  rwa [e] at this
/-- ranks[i][j] -/
theorem Ev.rk {R : List (List Nat)} (hR : RanksOk R) {e1 e2 e3 : Expr} {p1 p2 : Pos} {i j : Nat} (h1 : Ev prog w base k env V e1 (.list (nnD R))) (h2 : Ev prog w base k env V e2 (.int (i : Int))) (h3 : Ev prog w base k env V e3 (.int (j : Int))) (hi : i < 6) (hj : j < 4)
    (hs1 : ∀ o i, ∃ ops, subscripted e2 false o i = operate ops (getItem o i) := by intro _ _; exact ⟨_, rfl⟩) (hs : ∀ o i, ∃ ops, subscripted e3 false o i = operate ops (getItem o i) := by intro _ _; exact ⟨_, rfl⟩) :
    Ev prog w base k env V (.Subscript (.Subscript e1 e2 p1) e3 p2) (.int (rk R i j : Nat)) :=
  Ev.sub (a := .list (nD (R.getD i []))) (b := .int (j : Int)) (Ev.sub (a := .list (nnD R)) (b := .int (i : Int)) h1 h2 (g_listN (get_nnD (by rw [hR.1]; exact hi))) rfl hs1) h3 (g_listN (get_nD (by rw [hR.2 i hi]; exact hj))) rfl hs
end
end Mine
end
section
open PySem PySem.W PyProof.Rows PySem.Builtin.Str PySem.Builtin
namespace Mine
theorem map_getElem? {α β : Type} {f : α → β} {l : List α} {i : Nat} {d : β} (h : (l.map f)[i]? = some d) : ∃ a, l[i]? = some a ∧ d = f a := by
  rw [List.getElem?_map] at h
  cases e : l[i]? with
  | none => rw [e] at h; cases h
  | some a => rw [e] at h; exact ⟨a, rfl, (Option.some.inj h).symm⟩
theorem rD_get {n i : Nat} {d : D} (h : (rD n)[i]? = some d) : i < n ∧ d = .int (i : Int) := by
  obtain ⟨a, ha, rfl⟩ := map_getElem? h
  obtain ⟨hlt, e⟩ := List.getElem?_eq_some_iff.mp ha
  simp at hlt e
  exact ⟨hlt, by rw [e]⟩
theorem take_snoc {α : Type} {l : List α} {i : Nat} {a : α} (h : l[i]? = some a) : l.take (i + 1) = l.take i ++ [a] := by rw [List.take_add_one, h]; rfl
section
variable {w : World} {base : Heap} {k : Nat}
theorem Tr.and2 {prog : Program} {env : Env} {V : List (Str × D)} {x y : Expr} {p : Pos} {a b : Bool} (hx : Tr prog w base k env V x a) (hy : Tr prog w base k env V y b) : Tr prog w base k env V (.BoolOp .And [x, y] p) (a && b) := Tr.andTT hx fun _ => hy
theorem Tr.or2 {prog : Program} {env : Env} {V : List (Str × D)} {x y : Expr} {p : Pos} {a b : Bool} (hx : Tr prog w base k env V x a) (hy : Tr prog w base k env V y b) : Tr prog w base k env V (.BoolOp .Or [x, y] p) (a || b) := Tr.or hx fun _ => Tr.or1 hy
theorem alike_nil {n : Nat} (as : List D) : Alike (n + 1) (.list as) (.list []) as.isEmpty := by
  cases as with
  | nil => exact .list .nil
  | cons a r => exact .listLen (by simp)
theorem pairs_mem {R : List (List Nat)} {p : List Nat} {q : Nat × Nat} (h : q ∈ pairsL R p) : q.1 < 3 ∧ q.2 < 3 := by
  simp only [pairsL, List.mem_flatMap, List.mem_map, List.mem_filter, List.mem_range] at h
  obtain ⟨i, hi, j, ⟨hj, _⟩, rfl⟩ := h
  exact ⟨hi, hj⟩
theorem pairs_len (R : List (List Nat)) (p : List Nat) : (pairsL R p).length ≤ 9 := by
  unfold pairsL
  rw [List.length_flatMap]
  have : ∀ i, (((List.range 3).filter fun j => decide (rk R i j < rk R i (p.getD i 0))).map fun j => (i, j)).length ≤ 3 := fun i => by
    rw [List.length_map]; exact Nat.le_trans (List.length_filter_le _ _) (by simp)
  have h0 := this 0
  have h1 := this 1
  have h2 := this 2
  simp only [show List.range 3 = [0, 1, 2] from rfl, List.map_cons, List.map_nil, List.sum_cons, List.sum_nil] at h0 h1 h2 ⊢
  omega
theorem def_pairings {R : List (List Nat)} (G : Gl w base) (hR : RanksOk R) : OpL P0 w base (k + 1) (fun vs => call (.ref 176) vs) [.list (nnD R)] (.list (nnD (foundL R))) := by
  refine OpL.def (ps := ["ranks"]) G.d_law_pairings (by with_unfolding_all rfl) (fun vals h => ?_) (by decide +kernel) (by decide) rfl fun base' L hb' => ?_
  · obtain ⟨v, rfl⟩ := len1 h
    with_unfolding_all rfl
  · have G := G.kp hb'
    have hz := sizeLine_eq
    refine Ex.step (Step.assign (d := .list (nnD [[]])) (Ev.list (Evs.cons (Ev.list Evs.nil (by show 0 ≤ sizeLine; omega)) Evs.nil) (by show 1 ≤ sizeLine; omega)) (by decide +kernel) rfl) ?_
    refine Ex.forN (ds := rD 3) (fun _ => True) (fun i => [("picks", .list (nnD (picksL R i))), ("ranks", .list (nnD R))]) (fun _ => []) (EvIt.range G.b_range (by with_unfolding_all rfl) (n := 3) Ev.int) trivial (Has.cons rfl (Has.cons rfl Has.nil)) Has.nil rfl (by decide +kernel) (fun i d hd _ => ?_) fun _ => ?_
    · obtain ⟨hi, rfl⟩ := rD_get hd
      obtain ⟨po, pl⟩ := picks_ok R i (by omega)
      have pl3 : (picksL R i).length ≤ 64 := Nat.le_trans pl (by match i, hi with | 0, _ | 1, _ | 2, _ => decide)
      refine Ex.step (Step.assign (d := .list (nD (fitL R i))) ?_ (by decide +kernel) rfl) ?_
      · refine Ev.comp [("i", .int (i : Int)), ("ranks", .list (nnD R))] ⟨rfl, rfl, rfl, rfl, trivial⟩ (EvIt.range G.b_range (by with_unfolding_all rfl) (n := 3) Ev.int) (fun s C hk => ?_) (by unfold fitL; rw [List.length_map, hz]; exact Nat.le_trans (List.length_filter_le _ _) (by simp))
        refine CL.filt (α := Nat) (fun j => .int (j : Int)) (fun j => .int (j : Int)) (fun j => decide (rk R i j < rk R i 3) && decide (rk R (3 + j) i < rk R (3 + j) 3)) (List.range 3) rfl rfl (by decide +kernel) rfl (fun j hj => ?_) fun j _ _ => Ev.name rfl
        have hj : j < 3 := List.mem_range.mp hj
        exact Tr.and2 (Tr.compare (Ev.rk hR (Ev.name rfl) (Ev.name rfl) (Ev.name rfl) (by omega) (by omega)) (Ev.rk (j := 3) hR (Ev.name rfl) (Ev.name rfl) Ev.int (by omega) (by omega)) cmp_ltN)
          (Tr.compare (Ev.rk (i := 3 + j) hR (Ev.name rfl) (Ev.binop (a := .int 3) (b := .int (j : Int)) Ev.int (Ev.name rfl) (op_addN (a := 3))) (Ev.name rfl) (by omega) (by omega)) (Ev.rk (i := 3 + j) (j := 3) hR (Ev.name rfl) (Ev.binop (a := .int 3) (b := .int (j : Int)) Ev.int (Ev.name rfl) (op_addN (a := 3))) Ev.int (by omega) (by omega)) cmp_ltN)
      · have fl : (fitL R i).length ≤ 3 := by unfold fitL; exact Nat.le_trans (List.length_filter_le _ _) (by simp)
        have out : nnD (picksL R (i + 1)) = (picksL R i).flatMap fun p => (((fitL R i ++ [3]).filter fun j => decide (j = 3) || !decide (j ∈ p)).map fun j => D.list (nD (p ++ [j]))) := by
          show List.map _ ((picksL R i).flatMap _) = _
          rw [List.map_flatMap]
          congr 1
          funext p
          rw [List.map_map]
          rfl
        have osz : (nnD (picksL R (i + 1))).length ≤ sizeLine := by
          rw [List.length_map, hz]
          exact Nat.le_trans (picks_ok R (i + 1) (by omega)).2 (by match i, hi with | 0, _ | 1, _ | 2, _ => decide)
        refine Ex.step (Step.assignComp (out := nnD (picksL R (i + 1))) [("fit", .list (nD (fitL R i)))] ⟨rfl, rfl, trivial⟩ (EvIt.list (ds := nnD (picksL R i)) (Ev.name rfl)) (fun s C hk => ?_) (by decide +kernel) rfl osz) (Ex.nil ⟨trivial, Has.cons rfl (Has.cons rfl Has.nil), Has.nil, rfl⟩)
        rw [out]
        refine CL.two (fun p => .list (nD p)) (fun p => (((fitL R i ++ [3]).filter fun j => decide (j = 3) || !decide (j ∈ p)).map fun j => D.list (nD (p ++ [j])))) (fun _ => nD (fitL R i ++ [3])) (picksL R i) ?hb ?hx ?hs ?he ?hl
        case hb => decide +kernel
        case hx => rfl
        case hs => intro _; rfl
        case he =>
          intro p _
          refine EvIt.list ?_
          have e : nD (fitL R i ++ [3]) = nD (fitL R i) ++ [.int 3] := by simp [nD]
          rw [e]
          exact Ev.binop (a := .list (nD (fitL R i))) (b := .list [.int 3]) (Ev.name rfl) (Ev.list (Evs.cons Ev.int Evs.nil) (by show 1 ≤ sizeLine; omega)) (op_addLs (by simp; omega))
        case hl =>
          intro p hp
          obtain ⟨pl1, _⟩ := po p hp
          refine CL.filt (α := Nat) (fun j => .int (j : Int)) (fun j => D.list (nD (p ++ [j]))) (fun j => decide (j = 3) || !decide (j ∈ p)) (fitL R i ++ [3]) rfl rfl (by decide +kernel) rfl (fun j _ => ?_) fun j _ _ => ?_
          · exact Tr.or2 (Tr.compare (a := .int (j : Int)) (b := .int 3) (Ev.name rfl) Ev.int (cmp_eqN (b := 3))) (Tr.compare (a := .int (j : Int)) (b := .list (nD p)) (Ev.name rfl) (Ev.name rfl) cmp_notInN)
          · have e : nD (p ++ [j]) = nD p ++ [.int (j : Int)] := by simp [nD]
            rw [e]
            exact Ev.binop (a := .list (nD p)) (b := .list [.int (j : Int)]) (Ev.name rfl) (Ev.list (Evs.cons (Ev.name rfl) Evs.nil) (by show 1 ≤ sizeLine; omega)) (op_addLs (by simp; omega))
    · refine Ex.step (Step.newList (by decide +kernel) rfl) ?_
      have p3 : (picksL R 3).length ≤ 64 := (picks_ok R 3 (by omega)).2
      refine Ex.forN (ds := nnD (picksL R 3)) (fun _ => True) (fun _ => [("ranks", .list (nnD R))]) (fun m => [("found", .list (nnD (((picksL R 3).take m).filter (stabB R))))]) (EvIt.list (Ev.name rfl)) trivial (Has.cons rfl Has.nil) (Has.cons rfl Has.nil) rfl (by decide +kernel) (fun m d hd _ => ?_) fun _ => ?_
      · obtain ⟨p, hp, rfl⟩ := map_getElem? hd
        obtain ⟨pl, pe⟩ := (picks_ok R 3 (by omega)).1 p (List.mem_of_getElem? hp)
        have ts := take_snoc hp
        have pg : ∀ i, i < 3 → p.getD i 0 < 4 := fun i hi => by
          have : i < p.length := by omega
          have := pe (p.getD i 0) (by simp [this])
          omega
        refine Ex.step (Step.assign (d := .list (nD ((List.range 3).map (backN p)))) ?_ (by decide +kernel) rfl) ?_
        · refine Ev.comp [("pick", .list (nD p))] ⟨rfl, rfl, trivial⟩ (EvIt.range G.b_range (by with_unfolding_all rfl) (n := 3) Ev.int) (fun s C hk => ?_) (by show 3 ≤ sizeLine; omega)
          have e : nD ((List.range 3).map (backN p)) = (List.range 3).map fun j => D.int ((backN p j : Nat) : Int) := by rw [nD, List.map_map]; rfl
          rw [e]
          refine CL.map (α := Nat) (fun j => .int (j : Int)) (fun j => .int ((backN p j : Nat) : Int)) (List.range 3) rfl rfl (by decide +kernel) rfl fun j hj => ?_
          refine Ev.ifexp (b := decide (j ∈ p)) (Tr.compare (a := .int (j : Int)) (b := .list (nD p)) (Ev.name rfl) (Ev.name rfl) cmp_inN) (fun hb => ?_) fun hb => ?_
          · have hm := of_decide_eq_true hb
            have eb : backN p j = p.idxOf j := if_pos hm
            rw [eb]
            exact Ev.meth (id := "list.index") (a := .list (nD p)) (ds := [.int (j : Int)]) (Ev.name rfl) (Evs.cons (Ev.name rfl) Evs.nil) (strne "list" (by decide)) PySem.F.plainAttrs_list PySem.F.slot_list_index PySem.F.type_list_index (c_indexN hm (by omega))
          · have eb : backN p j = 3 := if_neg (of_decide_eq_false hb)
            rw [eb]
            exact Ev.int
        refine Ex.step (Step.assignComp (out := (pairsL R p).map fun q => .tup [.int (q.1 : Int), .int (q.2 : Int)]) [("pick", .list (nD p)), ("ranks", .list (nnD R))] ⟨rfl, rfl, rfl, rfl, trivial⟩ (EvIt.range G.b_range (by with_unfolding_all rfl) (n := 3) Ev.int) (fun s C hk => ?_) (by decide +kernel) rfl (by rw [List.length_map]; have := pairs_len R p; omega)) ?_
        · have G := G.kp hk
          have e : ((pairsL R p).map fun q => D.tup [.int (q.1 : Int), .int (q.2 : Int)]) = (List.range 3).flatMap fun i : Nat => ((List.range 3).filter fun j => decide (rk R i j < rk R i (p.getD i 0))).map fun j : Nat => D.tup [.int (i : Int), .int (j : Int)] := by
            show List.map _ ((List.range 3).flatMap _) = _
            rw [List.map_flatMap]
            congr 1
            funext i
            rw [List.map_map]
            rfl
          rw [e]
          refine CL.two (fun i : Nat => D.int (i : Int)) (fun i => ((List.range 3).filter fun j => decide (rk R i j < rk R i (p.getD i 0))).map fun j : Nat => D.tup [.int (i : Int), .int (j : Int)]) (fun _ => rD 3) (List.range 3) ?hb ?hx ?hs ?he ?hl
          case hb => decide +kernel
          case hx => rfl
          case hs => intro _; rfl
          case he =>
            intro i hi
            exact EvIt.range G.b_range (by with_unfolding_all rfl) (n := 3) Ev.int
          case hl =>
            intro i hi
            have hi := List.mem_range.mp hi
            refine CL.filt (α := Nat) (fun j => .int (j : Int)) (fun j => D.tup [.int (i : Int), .int (j : Int)]) (fun j => decide (rk R i j < rk R i (p.getD i 0))) (List.range 3) rfl rfl (by decide +kernel) rfl (fun j hj => ?_) fun j _ _ => ?_
            · have hj := List.mem_range.mp hj
              exact Tr.compare (Ev.rk hR (Ev.name rfl) (Ev.name rfl) (Ev.name rfl) (by omega) (by omega)) (Ev.rk hR (Ev.name rfl) (Ev.name rfl) (Ev.sub (a := .list (nD p)) (b := .int (i : Int)) (Ev.name rfl) (Ev.name rfl) (g_listN (get_nD (by omega)))) (by omega) (pg i hi)) cmp_ltN
            · exact Ev.tuple (Evs.cons (Ev.name rfl) (Evs.cons (Ev.name rfl) Evs.nil)) (by show 2 ≤ sizeLine; omega)
        have est : stabB R p = (((pairsL R p).filter fun q => decide (rk R (3 + q.2) q.1 < rk R (3 + q.2) (backN p q.2))).map fun _ => D.int 1).isEmpty := by unfold stabB; simp
        have bk : ∀ j, j < 3 → ((List.range 3).map (backN p)).getD j 0 = backN p j ∧ backN p j < 4 := fun j hj => by
          refine ⟨by simp [hj], ?_⟩
          unfold backN
          split
          · rename_i hm; have := List.idxOf_lt_length_of_mem hm; omega
          · decide
        have cmpE := cmp_eqL (prog := P0) (w := w) (base := base') (k := k) (alike_nil (n := 0) (((pairsL R p).filter fun q => decide (rk R (3 + q.2) q.1 < rk R (3 + q.2) (backN p q.2))).map fun _ => D.int 1)) (by decide)
        rw [← est] at cmpE
        have lz : (((pairsL R p).filter fun q => decide (rk R (3 + q.2) q.1 < rk R (3 + q.2) (backN p q.2))).map fun _ => D.int 1).length ≤ sizeLine := by
          rw [List.length_map, hz]
          have := pairs_len R p
          exact Nat.le_trans (List.length_filter_le _ _) (by omega)
        cases hst : stabB R p with
        | true =>
          rw [hst] at cmpE
          refine Ex.ifT (N1 := fun V' O' => V' = _ ∧ O' = _) (Tr.compare (Ev.comp [("back", .list (nD ((List.range 3).map (backN p)))), ("ranks", .list (nnD R))] ⟨rfl, rfl, rfl, rfl, trivial⟩ (EvIt.list (ds := (pairsL R p).map fun q => .tup [.int (q.1 : Int), .int (q.2 : Int)]) (Ev.name rfl)) (fun s C hk => ?_) lz) (Ev.list Evs.nil (by show 0 ≤ sizeLine; omega)) cmpE)
            (Ex.step (Step.append (x := "found") rfl (Ev.name rfl) (by rw [List.length_map]; have := List.length_filter_le (stabB R) ((picksL R 3).take m); simp at this; omega)) (Ex.nil ⟨rfl, rfl⟩)) fun V' O' hh => ?_
          · refine CL.pairs (.int 1) (fun q => decide (rk R (3 + q.2) q.1 < rk R (3 + q.2) (backN p q.2))) (pairsL R p) ?hb ?hb2 ?hx ?hy ?hne ?hc ?he
            case hb => decide +kernel
            case hb2 => decide +kernel
            case hx => rfl
            case hy => rfl
            case hne => decide
            case hc =>
              intro q hq
              obtain ⟨q1, q2⟩ := pairs_mem hq
              obtain ⟨b1, b2⟩ := bk q.2 q2
              refine Tr.compare (Ev.rk (i := 3 + q.2) (j := q.1) hR (Ev.name rfl) (Ev.binop (a := .int 3) (b := .int (q.2 : Int)) Ev.int (Ev.name rfl) (op_addN (a := 3))) (Ev.name rfl) (by omega) (by omega))
                (Ev.rk (i := 3 + q.2) (j := backN p q.2) hR (Ev.name rfl) (Ev.binop (a := .int 3) (b := .int (q.2 : Int)) Ev.int (Ev.name rfl) (op_addN (a := 3))) (Ev.sub (a := .list (nD ((List.range 3).map (backN p)))) (b := .int (q.2 : Int)) (Ev.name rfl) (Ev.name rfl) (g_listN (by
                  have := get_nD (l := (List.range 3).map (backN p)) (i := q.2) (by simpa using q2)
                  rw [b1] at this; exact this))) (by omega) b2) cmp_ltN
            case he => exact fun q _ => Ev.int
          · obtain ⟨rfl, rfl⟩ := hh
            refine Ex.nil ⟨trivial, Has.cons rfl Has.nil, Has.cons ?_ Has.nil, rfl⟩
            rw [ts, List.filter_append, List.filter_cons_of_pos hst]
            simp [nnD, List.lookup_cons]
        | false =>
          rw [hst] at cmpE
          refine Ex.ifF (N1 := fun V' O' => V' = _ ∧ O' = _) (Tr.compare (Ev.comp [("back", .list (nD ((List.range 3).map (backN p)))), ("ranks", .list (nnD R))] ⟨rfl, rfl, rfl, rfl, trivial⟩ (EvIt.list (ds := (pairsL R p).map fun q => .tup [.int (q.1 : Int), .int (q.2 : Int)]) (Ev.name rfl)) (fun s C hk => ?_) lz) (Ev.list Evs.nil (by show 0 ≤ sizeLine; omega)) cmpE)
            (Ex.nil ⟨rfl, rfl⟩) fun V' O' hh => ?_
          · refine CL.pairs (.int 1) (fun q => decide (rk R (3 + q.2) q.1 < rk R (3 + q.2) (backN p q.2))) (pairsL R p) ?hb ?hb2 ?hx ?hy ?hne ?hc ?he
            case hb => decide +kernel
            case hb2 => decide +kernel
            case hx => rfl
            case hy => rfl
            case hne => decide
            case hc =>
              intro q hq
              obtain ⟨q1, q2⟩ := pairs_mem hq
              obtain ⟨b1, b2⟩ := bk q.2 q2
              refine Tr.compare (Ev.rk (i := 3 + q.2) (j := q.1) hR (Ev.name rfl) (Ev.binop (a := .int 3) (b := .int (q.2 : Int)) Ev.int (Ev.name rfl) (op_addN (a := 3))) (Ev.name rfl) (by omega) (by omega))
                (Ev.rk (i := 3 + q.2) (j := backN p q.2) hR (Ev.name rfl) (Ev.binop (a := .int 3) (b := .int (q.2 : Int)) Ev.int (Ev.name rfl) (op_addN (a := 3))) (Ev.sub (a := .list (nD ((List.range 3).map (backN p)))) (b := .int (q.2 : Int)) (Ev.name rfl) (Ev.name rfl) (g_listN (by
                  have := get_nD (l := (List.range 3).map (backN p)) (i := q.2) (by simpa using q2)
                  rw [b1] at this; exact this))) (by omega) b2) cmp_ltN
            case he => exact fun q _ => Ev.int
          · obtain ⟨rfl, rfl⟩ := hh
            refine Ex.nil ⟨trivial, Has.cons rfl Has.nil, Has.cons ?_ Has.nil, rfl⟩
            rw [ts, List.filter_append, List.filter_cons_of_neg (by rw [hst]; decide)]
            simp
      · rw [List.length_map, List.take_of_length_le (Nat.le_refl _)]
        exact Ex.freeze (O' := []) (x := "found") rfl (fun y e l => by simp at l) G.sys (Ex.ret (d := .list (nnD (foundL R))) (Ev.name rfl) rfl)
end
end Mine
end
section
open PySem PySem.W PyProof.Rows PySem.Builtin.Str PySem.Builtin
namespace Mine
/-! facts of the signs -/
theorem writ_facts : ((List.range 256).all fun n => hdecL (writL n) == [n] && !(writL n).contains 63 && !(writL n).contains 39 && !(writL n).contains 34 && (writL n).all (fun c => decide (c < 256)) && !(writL n).isEmpty && !(figL n).contains 61 && !(figL n).contains 39) = true := by decide +kernel
theorem writ_is {n : Nat} (h : n < 256) : hdecL (writL n) = [n] ∧ 63 ∉ writL n ∧ 39 ∉ writL n ∧ 34 ∉ writL n ∧ (∀ c ∈ writL n, c < 256) ∧ writL n ≠ [] ∧ 61 ∉ figL n ∧ 39 ∉ figL n := by
  have := List.all_eq_true.mp writ_facts n (List.mem_range.mpr h)
  simp only [Bool.and_eq_true, beq_iff_eq, Bool.not_eq_true', List.contains_eq_mem, decide_eq_false_iff_not, List.all_eq_true, decide_eq_true_eq, List.isEmpty_eq_false_iff] at this
  obtain ⟨⟨⟨⟨⟨⟨⟨a, b⟩, c⟩, d⟩, e⟩, f⟩, g⟩, i⟩ := this
  exact ⟨a, b, c, d, e, f, g, i⟩
theorem figL_back : ((List.range 256).all fun n => (if (figL n).getD 0 0 < 58 then (figL n).getD 0 0 - 48 else (figL n).getD 0 0 - 55) * 16 + (if (figL n).getD 1 0 < 58 then (figL n).getD 1 0 - 48 else (figL n).getD 1 0 - 55) == n) = true := by decide +kernel
theorem figL_inj {a b : Nat} (ha : a < 256) (hb : b < 256) (h : figL a = figL b) : a = b := by
  have h1 := List.all_eq_true.mp figL_back a (List.mem_range.mpr ha)
  have h2 := List.all_eq_true.mp figL_back b (List.mem_range.mpr hb)
  rw [beq_iff_eq] at h1 h2
  rw [h] at h1
  exact h1.symm.trans h2
theorem writL_inj {a b : Nat} (ha : a < 256) (hb : b < 256) (h : writL a = writL b) : a = b := by
  have h1 := (writ_is ha).1
  have h2 := (writ_is hb).1
  rw [h] at h1
  rw [h1] at h2
  simpa using h2
/-! the octets, what an office holds -/
structure OctOk (O : List Nat) : Prop where
  len : O.length = 6
  nodup : O.Nodup
  lt : ∀ x ∈ O, x < 256
theorem OctOk.at {O : List Nat} (h : OctOk O) {i : Nat} (hi : i < 6) : O.getD i 0 < 256 := by
  have : i < O.length := by rw [h.len]; exact hi
  exact h.lt _ (by simp [this])
theorem OctOk.inj {O : List Nat} (h : OctOk O) {i j : Nat} (hi : i < 6) (hj : j < 6) (e : O.getD i 0 = O.getD j 0) : i = j := by
  have h1 : i < O.length := by rw [h.len]; exact hi
  have h2 : j < O.length := by rw [h.len]; exact hj
  simp only [List.getD_eq_getElem?_getD, List.getElem?_eq_getElem h1, List.getElem?_eq_getElem h2, Option.getD_some] at e
  exact (List.getElem_inj h.nodup).mp e
noncomputable def digL (t : Nat) : List Nat := [48 + t]
noncomputable def valL (t : Nat) (x : List Nat) : List Nat := joinL 63 [[], digL t, [113], x, [61]]
noncomputable abbrev Held := List (Nat × Nat × Nat)
noncomputable def heldD (O : List Nat) (h : Held) : List (Str × D) := h.map fun q => (S (figL (O.getD (3 + q.1) 0)), .str (S (valL q.2.1 (writL (O.getD q.2.2 0)))))
structure HeldOk (h : Held) : Prop where
  keys : (h.map (·.1)).Nodup
  ok : ∀ q ∈ h, q.1 < 3 ∧ q.2.1 < 10 ∧ q.2.2 < 3
noncomputable def mateOf (h : Held) (j : Nat) : Nat := ((h.find? fun q => q.1 == j).map (·.2.2)).getD 3
theorem held_one : ∀ {h : Held} {j : Nat}, (h.map (·.1)).Nodup → h.filter (fun q => q.1 == j) = (h.find? fun q => q.1 == j).toList
  | [], j, _ => rfl
  | q :: r, j, hn => by
    rw [List.map_cons, List.nodup_cons] at hn
    cases e : q.1 == j with
    | true =>
      rw [List.filter_cons_of_pos (by simpa using e), List.find?_cons_of_pos (by simpa using e)]
      have : r.filter (fun q => q.1 == j) = [] := by
        rw [List.filter_eq_nil_iff]
        intro p hp hpj
        exact hn.1 (by rw [beq_iff_eq.mp e, ← beq_iff_eq.mp hpj]; exact List.mem_map.mpr ⟨p, hp, rfl⟩)
      rw [this]; rfl
    | false =>
      rw [List.filter_cons_of_neg (by simp [e]), List.find?_cons_of_neg (by simp [e])]
      exact held_one hn.2
theorem nodup_lt_len : ∀ (n : Nat) (l : List Nat), l.Nodup → (∀ x ∈ l, x < n) → l.length ≤ n
  | 0, l, _, h => by
    cases l with
    | nil => exact Nat.le_refl _
    | cons a r => exact absurd (h a List.mem_cons_self) (Nat.not_lt_zero _)
  | n + 1, l, hn, h => by
    by_cases hm : n ∈ l
    · have ih := nodup_lt_len n (l.erase n) (hn.erase n) fun x hx => by
        have h1 := h x (List.mem_of_mem_erase hx)
        have h2 := (hn.mem_erase_iff.mp hx).1
        omega
      rw [List.length_erase_of_mem hm] at ih
      omega
    · have ih := nodup_lt_len n l hn fun x hx => by
        have h1 := h x hx
        have h2 : x ≠ n := fun e => hm (e ▸ hx)
        omega
      omega
theorem held_len {h : Held} (ho : HeldOk h) : h.length ≤ 3 := by
  have h1 := nodup_lt_len 3 (h.map (·.1)) ho.keys fun x hx => by
    obtain ⟨q, hq, rfl⟩ := List.mem_map.mp hx
    exact (ho.ok q hq).1
  simpa using h1
theorem mateOf_le {h : Held} (ho : HeldOk h) (j : Nat) : mateOf h j ≤ 3 := by
  unfold mateOf
  cases e : h.find? fun q => q.1 == j with
  | none => exact Nat.le_refl _
  | some q => have := (ho.ok q (List.mem_of_find?_eq_some e)).2.2; show q.2.2 ≤ 3; omega
theorem alike_strs {n : Nat} : ∀ (as bs : List Str), Alike (n + 1) (.list (as.map .str)) (.list (bs.map .str)) (decide (as = bs)) := by
  intro as bs
  by_cases hl : as.length = bs.length
  · refine .list ?_
    induction as generalizing bs with
    | nil =>
      have : bs = [] := List.eq_nil_of_length_eq_zero (by simpa using hl.symm)
      subst this; exact .nil
    | cons a r ih =>
      cases bs with
      | nil => simp at hl
      | cons b t =>
        have := AlikeAll.cons (n := n) (Alike.str a b) (ih t (by simpa using hl))
        have e : decide (a :: r = b :: t) = (decide (a = b) && decide (r = t)) := by rw [Bool.eq_iff_iff]; simp
        rw [e]; exact this
  · have e : decide (as = bs) = false := decide_eq_false fun h => hl (by rw [h])
    rw [e]
    exact .listLen (by simpa using hl)
end Mine
end
section
open PySem PySem.W PyProof.Rows PySem.Builtin.Str PySem.Builtin
namespace Mine
theorem cmp_eqS {prog : Program} {w : World} {base : Heap} {k : Nat} {a b : List Nat} : Op2 prog w base k (compareOp .Eq) (.str (S a)) (.str (S b)) (.bool (decide (a = b))) := by
  have := cmp_seq (prog := prog) (w := w) (base := base) (k := k) (x := S a) (y := S b)
  have e : decide (S a = S b) = decide (a = b) := by simp
  rwa [e] at this
theorem val_split {t : Nat} {x : List Nat} (ht : t < 10) (hx : 63 ∉ x) : spl 63 ((valL t x).length + 1) (valL t x) = [[], digL t, [113], x, [61]] :=
  spl_join _ _ (by simp) (fun a ha => by
    simp only [List.mem_cons, List.not_mem_nil, or_false] at ha
    rcases ha with rfl | rfl | rfl | rfl | rfl
    · simp
    · simp [digL]; omega
    · decide
    · exact hx
    · decide) (by have := joinL_len 63 [[], digL t, [113], x, [61]]; unfold valL; omega)
theorem val_len {t : Nat} {x : List Nat} (hx : x.length ≤ 10) : (valL t x).length ≤ 30 := by
  simp [valL, joinL, digL]; omega
/-- where a key stands among distinct ones -/
theorem lookup_mem {l : List (Str × D)} (hn : (l.map (·.1)).Nodup) {x : Str} {d : D} (h : (x, d) ∈ l) : l.lookup x = some d := lookup_nodup hn h
theorem map_nodup {α β : Type} {f : α → β} : ∀ {l : List α}, l.Nodup → (∀ a ∈ l, ∀ b ∈ l, f a = f b → a = b) → (l.map f).Nodup
  | [], _, _ => List.nodup_nil
  | a :: r, hn, h => by
    rw [List.map_cons, List.nodup_cons]
    rw [List.nodup_cons] at hn
    refine ⟨fun hm => ?_, map_nodup hn.2 fun x hx y hy => h x (List.mem_cons_of_mem _ hx) y (List.mem_cons_of_mem _ hy)⟩
    obtain ⟨b, hb, e⟩ := List.mem_map.mp hm
    exact hn.1 (by rw [h a List.mem_cons_self b (List.mem_cons_of_mem _ hb) e.symm]; exact hb)
theorem held_nodup {O : List Nat} {h : Held} (hO : OctOk O) (ho : HeldOk h) : ((heldD O h).map (·.1)).Nodup := by
  have e : (heldD O h).map (·.1) = (h.map (·.1)).map fun j => S (figL (O.getD (3 + j) 0)) := by unfold heldD; rw [List.map_map, List.map_map]; rfl
  rw [e]
  refine map_nodup ho.keys fun a ha b hb e => ?_
  obtain ⟨q, hq, rfl⟩ := List.mem_map.mp ha
  obtain ⟨r, hr, rfl⟩ := List.mem_map.mp hb
  have h1 := (ho.ok q hq).1
  have h2 := (ho.ok r hr).1
  have := hO.inj (by omega) (by omega) (figL_inj (hO.at (by omega)) (hO.at (by omega)) (S_inj.mp e))
  omega
theorem mate_pick {O : List Nat} {h : Held} {j : Nat} (hO : OctOk O) (ho : HeldOk h) : ((((List.range 3).filter fun k => decide ([S [O.getD k 0]] = (h.filter fun q : Nat × Nat × Nat => q.1 == j).map fun q : Nat × Nat × Nat => S [O.getD q.2.2 0])) ++ [3]).map fun k : Nat => D.int (k : Int))[0]? = some (.int (mateOf h j : Nat)) := by
  rw [held_one ho.keys]
  unfold mateOf
  cases e : h.find? fun q => q.1 == j with
  | none =>
    have : ((List.range 3).filter fun k => decide ([S [O.getD k 0]] = ((none : Option (Nat × Nat × Nat)).toList).map fun q : Nat × Nat × Nat => S [O.getD q.2.2 0])) = [] := by
      rw [List.filter_eq_nil_iff]; intro k _; simp
    rw [this]; rfl
  | some q =>
    have hq := (ho.ok q (List.mem_of_find?_eq_some e)).2.2
    have : ((List.range 3).filter fun k => decide ([S [O.getD k 0]] = ((some q : Option (Nat × Nat × Nat)).toList).map fun q : Nat × Nat × Nat => S [O.getD q.2.2 0])) = [q.2.2] := by
      have he : ((List.range 3).filter fun k => decide ([S [O.getD k 0]] = ((some q : Option (Nat × Nat × Nat)).toList).map fun q : Nat × Nat × Nat => S [O.getD q.2.2 0])) = (List.range 3).filter fun k => k == q.2.2 := by
        refine List.filter_congr fun k hk => ?_
        have hk := List.mem_range.mp hk
        rw [Bool.eq_iff_iff, decide_eq_true_eq, beq_iff_eq]
        constructor
        · intro h
          simp only [Option.toList_some, List.map_cons, List.map_nil, List.cons.injEq, and_true] at h
          have := S_inj.mp h
          simp only [List.cons.injEq, and_true] at this
          exact hO.inj (by omega) (by omega) this
        · intro h; rw [h]; rfl
      rw [he]
      have : ∀ i : Fin 3, (List.range 3).filter (fun k => k == i.val) = [i.val] := by decide
      exact this ⟨q.2.2, hq⟩
    rw [this]; rfl
section
variable {w : World} {base : Heap} {k : Nat}
theorem def_mates {O : List Nat} {h : Held} (G : Gl w base) (hO : OctOk O) (ho : HeldOk h) : OpL P0 w base (k + 5) (fun vs => call (.ref 164) vs) [.list (nD O), .dict (heldD O h)] (.list (nD ((List.range 3).map (mateOf h)))) := by
  refine OpL.def (ps := ["octets", "held"]) G.d_law_mates (by with_unfolding_all rfl) (fun vals h => ?_) (by decide +kernel) (by decide) rfl fun base' L hb' => ?_
  · obtain ⟨v, u, rfl⟩ := len2 h
    with_unfolding_all rfl
  · have G := G.kp hb'
    have hz := sizeLine_eq
    have hl := held_len ho
    refine Ex.step (Step.newList (by decide +kernel) rfl) ?_
    refine Ex.forN (ds := nD (O.drop 3)) (fun _ => True) (fun _ => [("octets", .list (nD O)), ("held", .dict (heldD O h))]) (fun m => [("mates", .list (nD ((List.range m).map (mateOf h))))]) (EvIt.list ?_) trivial (Has.cons rfl (Has.cons rfl Has.nil)) (Has.cons rfl Has.nil) rfl (by decide +kernel) (fun m d hd _ => ?_) fun _ => ?_
    · have e : nD (O.drop 3) = (nD O).drop 3 := List.map_drop
      rw [e]
      exact Ev.sliceF (a := 3) (Ev.name rfl) Ev.int (by simp [hO.len]) (by simp [hO.len])
    · obtain ⟨c, hc, rfl⟩ := map_getElem? hd
      have hm : m < 3 := by
        obtain ⟨hlt, _⟩ := List.getElem?_eq_some_iff.mp hc
        rw [List.length_drop, hO.len] at hlt; omega
      have ec : c = O.getD (3 + m) 0 := by
        rw [List.getElem?_drop] at hc
        simp [hc]
      have hcl : c < 256 := by rw [ec]; exact hO.at (by omega)
      have nd := held_nodup hO ho
      refine Ex.step (Step.assign (d := .list ((h.filter fun q : Nat × Nat × Nat => q.1 == m).map fun q : Nat × Nat × Nat => D.str (S [O.getD q.2.2 0]))) (Ev.comp [("held", .dict (heldD O h)), ("octet", .int (c : Int))] ⟨rfl, rfl, rfl, rfl, trivial⟩ (EvIt.dict (Ev.name rfl)) (fun s C hk => ?_) (by rw [List.length_map]; have := List.length_filter_le (fun q : Nat × Nat × Nat => q.1 == m) h; omega)) (by decide +kernel) rfl) ?_
      · have G := G.kp hk
        have e : ((heldD O h).map fun p => D.str p.1) = h.map fun q : Nat × Nat × Nat => D.str (S (figL (O.getD (3 + q.1) 0))) := by unfold heldD; rw [List.map_map]; rfl
        rw [e]
        refine CL.filt (α := Nat × Nat × Nat) (fun q => D.str (S (figL (O.getD (3 + q.1) 0)))) (fun q => D.str (S [O.getD q.2.2 0])) (fun q => q.1 == m) h rfl rfl ?hb rfl ?hc ?he
        case hb => decide +kernel
        case hc =>
          intro q hq
          obtain ⟨q1, q2, q3⟩ := ho.ok q hq
          refine Tr.of (Tr.compare (a := .str (S (figL (O.getD (3 + q.1) 0)))) (b := .str (S (figL c))) (Ev.name rfl) (Ev.callF G.n_law_figures (by with_unfolding_all rfl) G.d_law_figures.fn (Evs.cons (Ev.name rfl) Evs.nil) (def_figures (k := k + 3) G hcl)) cmp_eqS) ?_
          rw [Bool.eq_iff_iff, decide_eq_true_eq, beq_iff_eq]
          constructor
          · intro hh
            have := hO.inj (by omega) (by omega) ((figL_inj (hO.at (by omega)) hcl hh).trans ec)
            omega
          · intro hh; rw [hh, ec]
        case he =>
          intro q hq hqm
          obtain ⟨q1, q2, q3⟩ := ho.ok q hq
          have wi := writ_is (hO.at (i := q.2.2) (by omega))
          have wl := writL_len (O.getD q.2.2 0)
          have hd := def_hdecode (k := k) (l := writL (O.getD q.2.2 0)) G (by omega) wi.2.2.2.2.1
          rw [wi.1] at hd
          have sp := c_splitA (prog := P0) (w := w) (base := s.heap) (k := k + 4) (l := valL q.2.1 (writL (O.getD q.2.2 0))) (c := 63) (by decide) (by have := val_len (t := q.2.1) (x := writL (O.getD q.2.2 0)) (by omega); omega)
          rw [val_split q2 wi.2.1] at sp
          refine (EvT.call1 (T := False) (U := True) (c := .str (S (writL (O.getD q.2.2 0)))) G.n_header_decode (by with_unfolding_all rfl) G.d_header_decode.fn ?_ hd).all
          refine EvT.sub (U' := False) (a := .list (sD [[], digL q.2.1, [113], writL (O.getD q.2.2 0), [61]])) (b := .int 3) (Ev.toT ?_) EvT.int (g_listN (i := 3) rfl)
          refine Ev.meth (id := "str.split") (a := .str (S (valL q.2.1 (writL (O.getD q.2.2 0))))) (ds := [.str (S [63])]) ?_ (Evs.cons (Ev.strS (by decide +kernel)) Evs.nil) (strne "str" (by decide)) PySem.F.plainAttrs_str PySem.F.slot_str_split PySem.F.type_str_split sp
          exact Ev.sub (a := .dict (heldD O h)) (b := .str (S (figL (O.getD (3 + q.1) 0)))) (Ev.name rfl) (Ev.name rfl) (g_dict (lookup_mem nd (List.mem_map.mpr ⟨q, hq, rfl⟩)))
      · have mp := mate_pick (j := m) hO ho
        have e3 : nD ((List.range (m + 1)).map (mateOf h)) = nD ((List.range m).map (mateOf h)) ++ [.int (mateOf h m : Nat)] := by rw [List.range_succ]; simp [nD]
        refine Ex.step (Step.append (x := "mates") (d := .int (mateOf h m : Nat)) rfl ?_ (by rw [List.length_map, List.length_map, List.length_range]; omega)) (Ex.nil ⟨trivial, Has.cons rfl (Has.cons rfl Has.nil), Has.cons ?_ Has.nil, rfl⟩)
        · have es : ((h.filter fun q : Nat × Nat × Nat => q.1 == m).map fun q : Nat × Nat × Nat => D.str (S [O.getD q.2.2 0])) = ((h.filter fun q : Nat × Nat × Nat => q.1 == m).map fun q : Nat × Nat × Nat => S [O.getD q.2.2 0]).map D.str := by rw [List.map_map]; rfl
          rw [List.map_append] at mp
          refine Ev.sub (a := .list (((List.range 3).filter fun k => decide ([S [O.getD k 0]] = (h.filter fun q : Nat × Nat × Nat => q.1 == m).map fun q : Nat × Nat × Nat => S [O.getD q.2.2 0])).map (fun k : Nat => D.int (k : Int)) ++ [3].map fun k : Nat => D.int (k : Int))) (b := .int 0) (Ev.binop ?_ (Ev.list (ds := [3].map fun k : Nat => D.int (k : Int)) (Evs.cons Ev.int Evs.nil) (by show 1 ≤ sizeLine; omega)) (op_addLs ?_)) Ev.int (g_listN (i := 0) mp)
          · refine Ev.comp [("octets", .list (nD O)), ("signs", .list ((h.filter fun q : Nat × Nat × Nat => q.1 == m).map fun q : Nat × Nat × Nat => D.str (S [O.getD q.2.2 0])))] ⟨rfl, rfl, rfl, rfl, trivial⟩ (EvIt.range G.b_range (by with_unfolding_all rfl) (n := 3) Ev.int) (fun s C hk => ?_) (by rw [List.length_map, hz]; exact Nat.le_trans (List.length_filter_le _ _) (by simp))
            have G := G.kp hk
            refine CL.filt (α := Nat) (fun j => .int (j : Int)) (fun j => .int (j : Int)) (fun k => decide ([S [O.getD k 0]] = (h.filter fun q : Nat × Nat × Nat => q.1 == m).map fun q : Nat × Nat × Nat => S [O.getD q.2.2 0])) (List.range 3) rfl rfl ?hb rfl ?hc ?he
            case hb => decide +kernel
            case hc =>
              intro i hi
              have hi := List.mem_range.mp hi
              have hoi := hO.at (i := i) (by omega)
              have cc := c_chr (prog := P0) (w := w) (base := s.heap) (k := k + 4) (i := ((O.getD i 0 : Nat) : Int)) (by omega) (by omega)
              rw [Int.toNat_natCast] at cc
              have al := cmp_eqL (prog := P0) (w := w) (base := s.heap) (k := k + 4) (alike_strs (n := 0) [S [O.getD i 0]] ((h.filter fun q : Nat × Nat × Nat => q.1 == m).map fun q : Nat × Nat × Nat => S [O.getD q.2.2 0])) (by decide)
              rw [← es] at al
              exact Tr.compare (Ev.list (ds := [S [O.getD i 0]].map D.str) (Evs.cons (Ev.callB G.b_chr (by with_unfolding_all rfl) (Evs.cons (Ev.sub (a := .list (nD O)) (b := .int (i : Int)) (Ev.name rfl) (Ev.name rfl) (g_listN (get_nD (by rw [hO.len]; omega)))) Evs.nil) cc) Evs.nil) (by show 1 ≤ sizeLine; omega)) (Ev.name rfl) al
            case he => exact fun j _ _ => Ev.name rfl
          · rw [List.length_map]
            have := List.length_filter_le (fun k => decide ([S [O.getD k 0]] = (h.filter fun q : Nat × Nat × Nat => q.1 == m).map fun q : Nat × Nat × Nat => S [O.getD q.2.2 0])) (List.range 3)
            simp at this ⊢; omega
        · rw [e3]; rfl
    · rw [List.length_map, List.length_drop, hO.len]
      exact Ex.freeze (O' := []) (x := "mates") rfl (fun y e l => by simp at l) G.sys (Ex.ret (d := .list (nD ((List.range 3).map (mateOf h)))) (Ev.name rfl) rfl)
end
end Mine
end
section
open PySem PySem.W PyProof.Rows PySem.Builtin.Str
namespace Mine
section
variable {prog : Program} {w : World} {base : Heap}
/-- a call of a def of the text's, the body walked by hand -/
theorem call_core {A : Around} {s : Shared} {R : Result → Shared → Prop} {X : Addr → Prop} {a : Addr} {fd : FuncData} {body : List Stmt} {ps : List Str} {ds : List D} {vs : List Value} (hroom : A.depth < recursionLimit) (hf : DefIs base a fd) (hbody : fd.body = .stmts body)
    (hbind : ∀ vals : List Value, vals.length = ps.length → bindArgs fd ⟨vals, []⟩ = pure (ps.zip vals)) (hps : ∀ x ∈ ps, bindable fd.scope.names x = true) (hnd : ps.Nodup) (hlen : ds.length = ps.length) (o : Ok base X s) (r : RepAll w X s.heap vs ds)
    (hex : ∀ Y s₁, (∀ b, Y b → s.heap.get? b = none) → s.toks ≤ s₁.toks → Ks s s₁ → Frm w s.heap (callEnvC fd s.heap.objs.size a) (bindable fd.scope.names) (ps.zip ds) [] (fun b => X b ∨ Y b) Y s₁ →
      wpAny (model prog w) (A.deeper (callEnvC fd s.heap.objs.size a)) (execs body (callEnvC fd s.heap.objs.size a)) (fun f s' => R (.ok (.ret (match f with | .ret v => v | _ => .none))) s')
        (fun e s' => wpAny (model prog w) (A.deeper (callEnvC fd s.heap.objs.size a)) (leaving (callEnvC fd s.heap.objs.size a) e) (fun _ s'' => R (.error e) s'') (fun e' s'' => R (.error e') s'') s') s₁) :
    codeAny (model prog w) A (.call (.ref a) ⟨vs, []⟩) R s := by
  obtain ⟨ob, e, hd⟩ := hf.ob
  have vl : vs.length = ps.length := by rw [r.length, hlen]
  have kindC : ∀ x, fd.scope.names.lookup x = some .cell → ∃ c, (cellsFrom (s.heap.objs.size + 1) fd.scope.names []).lookup x = some c := fun x hx => by
    obtain ⟨c, hc⟩ := cellsFrom_has fd.scope.names (s.heap.objs.size + 1) (mem_of_lookup hx)
    exact lookup_of_mem hc
  have bk : ∀ x, bindable fd.scope.names x = true → fd.scope.names.lookup x = some .local ∨ (fd.scope.names.lookup x = some .cell ∧ ∃ c, (cellsFrom (s.heap.objs.size + 1) fd.scope.names []).lookup x = some c) := fun x hx => by
    simp only [bindable, Bool.or_eq_true, beq_iff_eq] at hx
    exact hx.imp id fun h => ⟨h, kindC x h⟩
  refine call_cells_mt hroom (o.1 a ob e) hd (let ⟨m, n, z⟩ := hf.lim; ⟨m, n.keeps o.1, z⟩) (hf.code.keeps o.1) hbody (.of_eq (hbind vs vl)) hf.clo (fun x hx => ?_) (fun s₁ le IC => ?_) hf.co hf.gen hf.kind
  · have hm : x.1 ∈ ps := by
      have : x.1 ∈ (ps.zip vs).map (·.1) := List.mem_map.mpr ⟨x, hx, rfl⟩
      rwa [zip_fst vl] at this
    exact (bk x.1 (hps _ hm)).imp id fun ⟨h, c, l⟩ => ⟨h, by rw [l]; rfl⟩
  · have ex := hex
    clear hex
    generalize hE : callEnvC fd s.heap.objs.size a = env at IC ex ⊢
    have eL : env.locals = s.heap.objs.size := by rw [← hE]; rfl
    have eC : env.cells = cellsFrom (s.heap.objs.size + 1) fd.scope.names [] := by rw [← hE]; rfl
    have eK : ∀ x, env.kindOf x = fd.scope.names.lookup x := fun x => by rw [← hE]; rfl
    let Y : Addr → Prop := fun b => b = env.locals ∨ ∃ x, env.cells.lookup x = some b
    have yfresh : ∀ b, Y b → s.heap.get? b = none := fun b y => by
      rcases y with y | ⟨x, y⟩
      · rw [y, eL]; exact get_size _
      · have := IC.above x b (mem_of_lookup y)
        rw [eL] at this
        exact size_keep (Kp.refl _) (Nat.le_of_lt this)
    obtain ⟨h1, t1, e1, kp1⟩ := IC.done
    have zn : ((ps.zip vs).map (·.1)).Nodup := by rw [zip_fst vl]; exact hnd
    have F : Frm w s.heap env (bindable fd.scope.names) (ps.zip ds) [] (fun b => X b ∨ Y b) Y s₁ := by
      refine ⟨⟨fun b o h => by rw [e1]; exact kp1 b o h, by rw [← hE]; exact hf.kind, by rw [← hE]; exact hf.glob, by rw [← hE]; exact hf.blt, fun b q => ?_, fun x hx => ?_, fun b h => ⟨let ⟨o', e⟩ := (o.2.2 b h).1; ⟨o', o.1 b o' e⟩, fun q => q.elim (o.2.2 b h).2 fun y => by obtain ⟨o', e⟩ := (o.2.2 b h).1; have := o.1 b o' e; rw [yfresh b y] at this; cases this⟩, fun x d' l => ?_⟩, ⟨fun b y => ⟨.inr y, yfresh b y⟩, .inl rfl, ⟨_, IC.toInCall.ns⟩, fun x c hx lx yc => ?_, fun x c hx lx => .inl (.inr ⟨x, lx⟩), fun x hx => ?_⟩, ?_⟩
      · rcases q with q | q | ⟨x, q⟩
        · obtain ⟨o', e'⟩ := o.2.1 b q; exact ⟨o', by rw [e1]; exact kp1 b o' e'⟩
        · obtain ⟨o', _, _, e', _⟩ := IC.toInCall.ns; rw [q]; exact ⟨o', e'⟩
        · obtain ⟨o', e', _⟩ := IC.cell x b q; exact ⟨o', e'⟩
      · rw [eK] at hx
        obtain ⟨c, l⟩ := kindC x hx
        rw [← eC] at l
        obtain ⟨o', e', _⟩ := IC.cell x c l
        exact ⟨c, l, o', e'⟩
      · obtain ⟨v, hm, hr⟩ := zip_rep r l
        refine ⟨v, ?_, hr.mono ⟨fun b o _ h => by rw [e1]; exact kp1 b o h, fun b o h q => q.elim id fun y => by rw [yfresh b y] at h; cases h⟩⟩
        have hp : x ∈ ps := by
          have : x ∈ (ps.zip vs).map (·.1) := List.mem_map.mpr ⟨(x, v), hm, rfl⟩
          rwa [zip_fst vl] at this
        rcases bk x (hps x hp) with kl | ⟨kc, c, lc⟩
        · have kl' : env.kindOf x = some .local := by rw [eK]; exact kl
          exact .inl ⟨kl', _, IC.toInCall.ns, bindL_get kl' zn hm⟩
        · have kc' : env.kindOf x = some .cell := by rw [eK]; exact kc
          rw [← eC] at lc
          refine .inr ⟨kc', c, lc, ?_⟩
          have := IC.cell x c lc
          rwa [bindC_get (by rw [kc']; simp) zn hm] at this
      · exact ⟨⟨_, IC.cell x c lx⟩, fun y ly => name_of_addr IC.apart (mem_of_lookup ly) (mem_of_lookup lx)⟩
      · rcases bk x hx with kl | ⟨kc, c, lc⟩
        · exact .inl (by rw [eK]; exact kl)
        · rw [← eC] at lc
          exact .inr ⟨by rw [eK]; exact kc, c, lc, .inr ⟨x, lc⟩⟩
      · exact ⟨fun _ => 0, ⟨fun _ _ l => by simp at l, fun _ _ n => (n rfl).elim⟩⟩
    exact ex Y s₁ yfresh le ⟨h1, t1, e1, kp1⟩ F
end
section
variable (prog : Program) (w : World) (base : Heap)
/-- the statements raise a ValueError of their own -/
noncomputable def ExR (own : Prop) (k : Nat) (env : Env) (B : Str → Bool) (V O : List (Str × D)) (ss : List Stmt) : Prop :=
  Seal (∀ (A : Around) (X Y : Addr → Prop) (s : Shared) (Q : Flow → Shared → Prop) (E : Value → Shared → Prop), GA k A → Frm w base env B V O X Y s → (own → PassesOwn (model prog w) A env E) →
    (∀ s₁ h' tk e, (∃ h tk, s₁ = { s with heap := h, toks := tk }) → Kp base s₁.heap → (∃ m, s₁.heap.Ns env.locals m) → Heap.NewExc s₁.heap h' e "ValueError" → E (.ref e) { s₁ with heap := h', toks := tk }) → wpAny (model prog w) A (execs ss env) Q E s)
end
section
variable {prog : Program} {w : World} {base : Heap} {k : Nat} {env : Env} {B : Str → Bool} {V V' O O' : List (Str × D)}
theorem ExR.step {own : Prop} {st : Stmt} {rest : List Stmt} (h : Step prog w base k env B V O st V' O') (r : ExR prog w base own k env B V' O' rest) : ExR prog w base own k env B V O (st :: rest) := Seal.mk fun A X Y s Q E g F hE q =>
  wpAny_execs_cons (h.out A X Y s _ E g F fun X' Y' s' F' t => r.out A X' Y' s' Q E g F' hE fun s₁ h' tk e sm => q s₁ h' tk e (by
    obtain ⟨h1, t1, rfl⟩ := t.same
    obtain ⟨h2, t2, rfl⟩ := sm
    exact ⟨h2, t2, rfl⟩))
theorem ExR.weak {own : Prop} {ss : List Stmt} (h : ExR prog w base own k env B V' O' ss) (v : ∀ x d, V'.lookup x = some d → V.lookup x = some d) (o : ∀ x d, O'.lookup x = some d → O.lookup x = some d) : ExR prog w base own k env B V O ss :=
  Seal.mk fun A X Y s Q E g F hE q => h.out A X Y s Q E g (F.weak v o) hE q
theorem ExR.for {x : Str} {px p : Pos} {iter : Expr} {body rest : List Stmt} {ds : List D} (hi : EvIt prog w base k env V iter ds) (I : Nat → List (Str × D) → List (Str × D) → Prop) (h0 : I 0 V O) (hb : B x = true) (j : Nat) (hj : j < ds.length)
    (turn : ∀ i d Vi Oi, i < j → ds[i]? = some d → I i Vi Oi → Oi.lookup x = none ∧ Ex prog w base k env B ((x, d) :: Vi) Oi body (I (i + 1)) (fun _ => False))
    (bad : ∀ d Vi Oi, ds[j]? = some d → I j Vi Oi → Oi.lookup x = none ∧ ExR prog w base False k env B ((x, d) :: Vi) Oi body) (hs : ∀ x, foldedSetIterable iter env x = pure x := by intro _; rfl) :
    ExR prog w base True k env B V O (.For (.Name x px) iter body [] p :: rest) := Seal.mk fun A X Y s Q E g F hE q => by
  refine wpAny_execs_cons (wpAny_For (hi.out A X s _ E g F.st fun It s2 t2 n2 a2 k2 => ?_) hs)
  have nY2 : ¬ Y It := fun y => by obtain ⟨z, e⟩ := F.st.low _ (F.ow.sub _ y).1; rw [n2] at e; cases e
  have bI : base.get? It = none := by
    cases z : base.get? It with
    | none => rfl
    | some z' => have := F.st.kept _ _ z; rw [n2] at this; cases this
  have F2 := F.add n2 k2 a2
  have T0 : Stp X Y s (fun b => X b ∨ b = It) Y s2 := .add n2 k2
  refine codeAny_forLoop (fun n s' => ∃ i Vi Oi X' Y', n = j - i ∧ i ≤ j ∧ I i Vi Oi ∧ Frm w base env B Vi Oi X' Y' s' ∧ X' It ∧ ¬ Y' It ∧ ItOK prog w X' It ds i s'.heap ∧ Stp X Y s X' Y' s') ?_ j
    ⟨0, V, O, _, Y, rfl, Nat.zero_le _, h0, F2, .inr rfl, nY2, t2, T0⟩
  rintro n s1 ⟨i, Vi, Oi, X1, Y1, rfl, hle, hI, F1, xI, nI, t1, T1⟩
  refine t1.item g.1 (by omega) xI fun d v h' tk l r t' kp ⟨oI, eI, _⟩ => ?_
  have F1' : Frm w base env B Vi Oi X1 Y1 { s1 with heap := h', toks := tk } := F1.touch nI xI bI kp (fun _ z => z) (fun b y => (F1.ow.sub b y).1) fun _ => ⟨oI, eI⟩
  have T1' : Stp X Y s X1 Y1 { s1 with heap := h', toks := tk } := by
    obtain ⟨hh, tt, e⟩ := T1.same
    have ne : ∀ b o, s.heap.get? b = some o → b ≠ It := fun b o e z => by rw [z, n2] at e; cases e
    refine ⟨⟨h', tk, by rw [e]⟩, fun b o n e => kp b o (ne b o e) (T1.mod b o n e), fun b o e => ?_, T1.keepX, T1.newY, T1.newX⟩
    obtain ⟨o', e'⟩ := T1.alive b o e
    exact ⟨o', kp b o' (ne b o e) e'⟩
  rcases Nat.lt_or_ge i j with hlt | hge
  · obtain ⟨ho, ex⟩ := turn i d Vi Oi hlt l hI
    refine wpAny_assign_Name (store_V F1' (F1'.ow.bnd x hb) ho r fun s3 F3 t3 _ => ?_)
    have t3' : ItOK prog w X1 It ds (i + 1) s3.heap := t'.mono g.1 (t3.fixed (fun b y => (F1'.ow.sub b y).1) fun _ z => .inl z) fun o e => t3.mod It o nI e
    refine ex.out A X1 Y1 s3 _ _ g F3 (fun V'' O'' X4 Y4 s4 n4 F4 t4 => ?_) fun d' v' X4 Y4 s4 rd rv t4 kp4 => rd.elim
    have nI4 : ¬ Y4 It := fun y => (t4.newY It y).elim nI fun z => by
      obtain ⟨o, e⟩ := F3.st.low It xI
      rw [z] at e; cases e
    exact ⟨j - (i + 1), by omega, i + 1, V'', O'', X4, Y4, rfl, hlt, n4, F4, t4.keepX It xI nI, nI4, t3'.mono g.1 (t4.fixed' (fun b y => (F3.ow.sub b y).1)) fun o e => t4.mod It o nI e, (T1'.trans F.st.low t3).trans F.st.low t4⟩
  · have hi' : i = j := Nat.le_antisymm hle hge
    subst hi'
    obtain ⟨ho, ex⟩ := bad d Vi Oi l hI
    refine wpAny_assign_Name (store_V F1' (F1'.ow.bnd x hb) ho r fun s3 F3 t3 _ => ?_)
    refine ex.out A X1 Y1 s3 _ _ g F3 False.elim fun s₁ h2 tk2 e sm kb ns nx => hE trivial _ _ (q s₁ h2 tk2 e ?_ kb ns nx)
    obtain ⟨h1, t1, e1⟩ := (T1'.trans F.st.low t3).same
    obtain ⟨h2, t2, rfl⟩ := sm
    rw [e1]
    exact ⟨h2, t2, rfl⟩
end
end Mine
end
section
open PySem PySem.W PyProof.Rows PySem.Builtin.Str
namespace Mine
section
variable {prog : Program} {w : World} {A : Around} {X : Addr → Prop} {E : Value → Shared → Prop} {base : Heap} {k : Nat} {env : Env} {B : Str → Bool} {V V' O : List (Str × D)}
/-- a list of one taken for two -/
theorem unpack_few {d : D} {v : Value} {s : Shared} {Q : List Value → Shared → Prop} (hh : A.handled = none) (o : ∀ b, X b → ∃ o, s.heap.get? b = some o) (r : Rep w X s.heap v (.list [d]))
    (h : ∀ s₁ h' tk e, Ks s s₁ → Heap.NewExc s₁.heap h' e "ValueError" → E (.ref e) { s₁ with heap := h', toks := tk }) : wpAny (model prog w) A (unpackItems v 2 none) Q E s := by
  have core : ∀ (I : Addr) (s1 : Shared), s.heap.get? I = none → Ks s s1 → ItOK prog w (fun b => X b ∨ b = I) I [d] 0 s1.heap → wpAny (model prog w) A (do
      let items ← holding [.ref I] (draw (.ref I) 2)
      if items.length < 2 then
        rule "unpack.too-few"; raiseError "ValueError" s!"not enough values to unpack (expected {2}, got {items.length})"
      if (← holding items (pyNext (.ref I))).isSome then
        rule "unpack.too-many"; raiseError "ValueError" s!"too many values to unpack (expected {2})"
      return items) Q E s1 := fun I s1 nI ks t => by
    refine wpAny_bind (wpAny_holding ?_)
    show wpAny _ _ (pyNext (.ref I) >>= _) _ _ s1
    refine wpAny_bind (t.item hh (by simp) (.inr rfl) fun d' u h1 tk1 l r1 t1 k1 _ => ?_)
    show wpAny _ _ (holding [u] (pyNext (.ref I) >>= _) >>= _) _ _ _
    refine wpAny_bind (wpAny_holding (wpAny_bind (t1.done hh fun h2 tk2 k2 => wpAny_pure (wpAny_pure ?_))))
    rw [if_pos (by simp)]
    obtain ⟨h0, tk0, rfl, kp⟩ := ks
    refine wpAny_bind (wpAny_rule (wpAny_bind (wpAny_raiseErrorMade plainExc_ValueError hh (fun h' tk e nx => ?hx) (by simp; decide))))
    case hx =>
      refine h { s with heap := h2, toks := tk2 } h' tk e ⟨h2, tk2, rfl, fun b o e => ?_⟩ nx
      have ne : b ≠ I := fun z => by rw [z, nI] at e; cases e
      exact k2 b o ne (k1 b o ne (kp b o e))
  unfold unpackItems
  obtain ⟨a, vs, n, rfl, nx, e, rs⟩ := r.inv
  have ne : a ≠ s.heap.objs.size := Nat.ne_of_lt (Heap.lt_size e)
  refine wpAny_bind ?_
  unfold notIterableAtAll
  refine wpAny_bind (wpAny_specialOf ⟨_, e, rfl⟩ slot_list_iter.lookup ?_)
  refine wpAny_pure ?_
  simp only [Bool.false_eq_true, if_false]
  refine wpAny_bind (wpAny_holding (wpAny_pyIter_list ⟨_, e, rfl, n, rfl⟩ (core _ _ (get_size _) (.push0 s _) ?_)))
  refine ⟨[s.heap.objs.size, a], fun j v => vs.toArray[j]? = some v, fun i h => h.IsListIter s.heap.objs.size a i ∧ h.IsList a vs.toArray, fun A hh => ?_, ⟨⟨_, Heap.get?_push_size _ rfl, rfl, rfl⟩, ⟨_, Heap.get?_push_of_some _ e, rfl, n, rfl⟩⟩,
    fun j h' st => let ⟨o, e, c, _⟩ := st.1; ⟨o, e, .inl c⟩, fun b hb => ?_, fun j v hj p => ?_⟩
  · have := Walks.list (prog := prog) (w := w) hh s.heap.objs.size a ne vs.toArray
    have hz : vs.toArray.size = [d].length := by simp [rs.length]
    rwa [hz] at this
  · simp only [List.mem_cons, List.not_mem_nil, or_false] at hb
    rcases hb with rfl | rfl
    · exact ⟨.inl rfl, _, Heap.get?_push_size _ rfl⟩
    · exact ⟨.inr fun z => z.elim nx ne, _, Heap.get?_push_of_some _ e⟩
  · have p' : vs[j]? = some v := by simpa using p
    have hj0 : j = 0 := by simpa using hj
    subst hj0
    obtain ⟨u, e1, e2⟩ := rs.get (i := 0) (d := d) rfl
    rw [p'] at e1
    cases e1
    exact ⟨_, rfl, e2.mono ⟨fun _ _ _ e => Heap.get?_push_of_some _ e, fun b o e z => z.elim id fun z => absurd (Heap.lt_size e) (by rw [z]; exact Nat.lt_irrefl _)⟩⟩
/-- x, y = e, where e gives a list of one -/
theorem ExR.unpackFew {own : Prop} {x y : Str} {px py tp p : Pos} {n : Nat} {e : Expr} {d : D} {rest : List Stmt} (h : Ev prog w base k env V e (.list [d]))
    (hs : swapsWithSole [.Tuple [.Name x px, .Name y py] n tp] e p.line env = pure false := by rfl) (hw : swappedStores [.Tuple [.Name x px, .Name y py] n tp] e env = pure none := by rfl) :
    ExR prog w base own k env B V O (.Assign [.Tuple [.Name x px, .Name y py] n tp] e p :: rest) := Seal.mk fun A X Y s Q E g F hE q =>
  wpAny_execs_cons (PyProof.Rows.Assign_Tuple (h.out A X s _ E g F.st fun v s' rv ks => by
    rw [PyProof.Rows.assign_Tuple]
    refine wpAny_bind (wpAny_standAt ?_)
    have e1 : assignEach [.Name x px, .Name y py] env = [(false, PySem.assign (.Name x px) env), (false, PySem.assign (.Name y py) env)] := rfl
    unfold PySem.unpack
    rw [e1]
    show wpAny _ _ (holding [v] (unpackItems v 2 Option.none) >>= fun items => assignInOrder [PySem.assign (.Name x px) env, PySem.assign (.Name y py) env] items) _ _ s'
    refine wpAny_bind (wpAny_holding (unpack_few g.1 (F.ks ks).st.low rv fun s₁ h' tk e k1 nx => ?_))
    have F1 := F.ks (ks.then k1)
    exact q s₁ h' tk e (by obtain ⟨h1, t1, rfl, _⟩ := ks.then k1; exact ⟨h1, t1, rfl⟩) F1.st.kept F1.ow.ns nx) hs hw)
/-! a statement that is an expression; try where nothing is raised -/
theorem Step.expr {e : Expr} {d : D} {p : Pos} (h : Ev prog w base k env V e d) (hi : interactive env = false := by rfl) (hs : swapsWith e none p.line env = pure false := by rfl) : Step prog w base k env B V O (.Expr e p) V O := Seal.mk fun A X Y s Q E g F q =>
  wpAny_Expr_any (h.out A X s _ E g F.st fun v s' _ ks => q X Y s' (F.ks ks) (.ks ks)) hi hs
theorem Ex.tryRet {N : List (Str × D) → List (Str × D) → Prop} {R : D → Prop} {body rest : List Stmt} {h₀ : ExceptHandler} {hs : List ExceptHandler} {orelse : List Stmt} {p : Pos} (h : Ex prog w base k env B V O body (fun _ _ => False) R) :
    Ex prog w base k env B V O (.Try body (h₀ :: hs) orelse [] p :: rest) N R := Seal.mk fun A X Y s Q E g F _ qr =>
  wpAny_execs_cons (wpAny_Try_except (h.out A X Y s _ _ g F (fun _ _ _ _ _ n => n.elim) fun d v X' Y' s' rd rv t kp => qr d v X' Y' s' rd rv t kp))
end
end Mine
end
section
open PySem PySem.W PyProof.Rows PySem.Builtin.Str
namespace Mine
section
variable {M : Model} {A : Around} {E : Value → Shared → Prop} {s : Shared} {env : Env}
theorem wp_execs_append {Γ : Ctx} {l2 : List Stmt} {Q : Flow → Pos → Shared → Prop} {E : Value → Pos → Shared → Prop} : ∀ (l1 : List Stmt) (p : Pos) (s : Shared),
    Sem.wp M Γ (execs l1 env) (fun f p' s' => match f with | .next => Sem.wp M Γ (execs l2 env) Q E p' s' | f => Q f p' s') E p s → Sem.wp M Γ (execs (l1 ++ l2) env) Q E p s
  | [], p, s, h => h
  | st :: r, p, s, h => by
    rw [List.cons_append, execs_cons, Sem.wp_bind']
    rw [execs_cons, Sem.wp_bind'] at h
    refine Sem.wp_mono M Γ _ (fun f p' s' h' => ?_) (fun _ _ _ h' => h') _ _ h
    cases f with
    | next => exact wp_execs_append r p' s' h'
    | _ => exact h'
theorem wpAny_execs_append {l1 l2 : List Stmt} {Q : Flow → Shared → Prop} (h : wpAny M A (execs l1 env) (fun f s' => match f with | .next => wpAny M A (execs l2 env) Q E s' | f => Q f s') E s) : wpAny M A (execs (l1 ++ l2) env) Q E s := fun Γ p hΓ => by
  refine wp_execs_append l1 p s (Sem.wp_mono M Γ _ (fun f p' s' h' => ?_) (fun _ _ _ h' => h') _ _ (h Γ p hΓ))
  cases f with
  | next => exact h' Γ p' hΓ
  | _ => exact h'
theorem leaves_newW {base h : Heap} {outer : List Env} {L e : Addr} {cls : String} {Q : Unit → Shared → Prop}
    (hfr : A.frames = some (env :: outer)) (hf : env.frame = some L) (hkb : base.StaysIn h) (hl : h.FunFrames base (env :: outer)) (hx : Heap.NewExc h s.heap e cls)
    (hQ : ∀ h' a0, Heap.FlyingW base outer e (.type cls) a0 h' → h.UpToSlots h' → Q () { s with heap := h' }) : wpAny M A (leaving env (.ref e)) Q E s := by
  obtain ⟨ob, tp, he, hcls, hd⟩ := hx.there
  have hen : base.get? e = none := by
    cases hq : base.get? e with
    | none => rfl
    | some o' => have := hkb e o' hq; rw [hx.new] at this; cases this
  refine wpAny_leaving_firstW (a0 := tp) hfr (hl.of_keeps fun b o hb _ => ⟨o, hx.keeps b o hb, rfl⟩) hf he (fun b o hb => hx.keeps b o (hkb b o hb)) hen hd rfl rfl fun h' hL => ?_
  obtain ⟨k1, ⟨_, _, k2⟩, k3, k4⟩ := hL
  exact hQ h' tp ⟨k1, hen, k2, by rw [← hcls]; exact k3⟩ ((Heap.UpToSlots.of_keeps hx.keeps).trans k4)
end
section
variable {prog : Program} {w : World} {A : Around} {E : Value → Shared → Prop} {s : Shared} {base B0 : Heap} {k : Nat} {env : Env} {outer : List Env}
/-- a call whose body raises a ValueError -/
theorem call_raises {X : Addr → Prop} {Q : Value → Shared → Prop} {a : Addr} {fd : FuncData} {body : List Stmt} {ps : List Str} {ds : List D} {vs : List Value} (g : GA (k + 1) A) (hfr : A.frames = some outer) (hf : DefIs base a fd) (hbody : fd.body = .stmts body)
    (hbind : ∀ vals : List Value, vals.length = ps.length → bindArgs fd ⟨vals, []⟩ = pure (ps.zip vals)) (hps : ∀ x ∈ ps, bindable fd.scope.names x = true) (hnd : ps.Nodup) (hlen : ds.length = ps.length) (o : Ok base X s) (r : RepAll w X s.heap vs ds)
    (hkb : B0.StaysIn s.heap) (hl : s.heap.FunFrames B0 outer)
    (hex : ∀ L base', Kp base base' → ExR prog w base' True k (callEnvC fd L a) (bindable fd.scope.names) (ps.zip ds) [] body)
    (q : ∀ h' tk e a0, Heap.FlyingW B0 outer e (.type "ValueError") a0 h' → s.heap.UpToSlots h' → E (.ref e) { s with heap := h', toks := tk }) : wpAny (model prog w) A (call (.ref a) vs) Q E s := by
  refine wpAny_call (call_core g.room hf hbody hbind hps hnd hlen o r fun Y s₁ yf le ks F => ?_)
  refine (hex _ s.heap o.1).out (A.deeper (callEnvC fd s.heap.objs.size a)) _ Y s₁ _ _ (g.deeper _) F (fun _ => PassesOwn.leaving) fun s₂ h' tk e sm kp ns nx => ?_
  have hfr' : (A.deeper (callEnvC fd s.heap.objs.size a)).frames = some (callEnvC fd s.heap.objs.size a :: outer) := Around.frames_deeper hfr
  obtain ⟨m, ns⟩ := ns
  refine leaves_newW (base := B0) (h := s₂.heap) hfr' rfl (fun b o e => kp b o (hkb b o e)) (Heap.FunFrames.cons (by show fd.scope.kind ≠ .module; rw [hf.kind]; decide) rfl ns hkb.fresh (hl.of_keeps fun b o e _ => ⟨o, kp b o e, rfl⟩)) nx fun h2 a0 fl up => ?_
  obtain ⟨h1, t1, rfl, _⟩ := ks
  obtain ⟨h3, t3, rfl⟩ := sm
  exact q h2 tk e a0 fl ((Heap.UpToSlots.of_keeps kp).trans up)
/-- what flies is caught by `except ValueError: return True` -/
theorem caught_true {L e : Addr} {a0 : Value} {Q : Flow → Shared → Prop} {np p1 p2 pos : Pos} {n : Nat} (hfr : A.frames = some (env :: outer)) (hf : env.frame = some L) (hk : env.scope.kind = .function) (hg : env.globals = mainGlobals) (hb : env.builtins = builtinsNs)
    (hx : env.kindOf "ValueError" = some .globalImplicit) (G : GlobIs prog w base "ValueError" (.type "ValueError")) (kb : Kp base B0) (fl : Heap.FlyingW B0 (env :: outer) e (.type "ValueError") a0 s.heap) (hE : PassesOwnAt (model prog w) (A.mark (some (.ref e))) A env E)
    (q : ∀ h', B0.StaysIn h' → s.heap.UpToSlots h' → Q (.ret (.bool true)) { s with heap := h' }) :
    wpAny (model prog w) A (noteFrame (.ref e) env) (fun _ s₂ => wpAny (model prog w) A (setFlight (.ref e) none) (fun _ s₃ =>
      wpAny (model prog w) A (handleBy (.ref e) env [.ExceptHandler (some (.Name "ValueError" np)) none [.Return (some (.Constant (.bool true) n p1)) p2] pos]) Q E s₃) E s₂) E s := by
  refine wpAny_looks_onW hfr hf fl fun h₄ hheld₄ hsm₄ => ?_
  refine wpAny_landsW hheld₄ fun h₅ hheld hsm₅ => ?_
  obtain ⟨ob, hob, hobc⟩ := hheld.there
  refine wpAny_handleBy_builtin (X := "ValueError") (T := "ValueError") (b := true) PySem.F.isExc_ValueError PySem.F.notTuple_ValueError (by rw [isSubtype_type]; kernel_rfl) (G.out (A.mark (some (.ref e))) env _ _ _ np hk hg hb hx (kb.trans fun b o e => hheld.1 b o e) ⟨rfl, ⟨ob, hob, hobc⟩, ?_⟩)
  refine lands_againW hheld fun h₆ hfl₆ hsm₆ => ?_
  refine wpAny_passesOwnAt hE (wpAny_execs_cons (wpAny_Return_some (wpAny_Constant_bool ?_)))
  exact q h₆ hfl₆.1 ((hsm₄.trans hsm₅).trans hsm₆)
end
end Mine
end
section
open PySem PySem.W PyProof.Rows PySem.Builtin.Str PySem.Builtin
namespace Mine
/-! what a raise leaves behind: all as it was, the frame's own slots but for -/
structure Mvd (L : Addr) (s s' : Shared) : Prop where
  same : ∃ h tk, s' = { s with heap := h, toks := tk }
  stay : ∀ b o, b ≠ L → s.heap.get? b = some o → s'.heap.get? b = some o
  up : s.heap.UpToSlots s'.heap
theorem Mvd.of {L : Addr} {s s' : Shared} (k : Ks s s') : Mvd L s s' := by
  obtain ⟨h, tk, rfl, e⟩ := k
  exact ⟨⟨h, tk, rfl⟩, fun b o _ q => e b o q, .of_keeps e⟩
section
variable {w : World} {base : Heap} {env : Env} {B : Str → Bool} {X Y : Addr → Prop} {V O : List (Str × D)} {s s' : Shared}
theorem Frm.mvd (F : Frm w base env B V O X Y s) (m : Mvd env.locals s s') : Frm w base env B V O X Y s' ∧ Stp X Y s X Y s' := by
  obtain ⟨m0, n0⟩ := F.ow.ns
  have n1 := m.up.ns n0
  have al : ∀ b o, s.heap.get? b = some o → ∃ o', s'.heap.get? b = some o' := fun b o e => by
    by_cases h : b = env.locals
    · obtain ⟨o', _, _, e', _⟩ := n1; exact ⟨o', h ▸ e'⟩
    · exact ⟨o, m.stay b o h e⟩
  have fx : Fixed X X s.heap s'.heap := ⟨fun b o n e => m.stay b o (fun z => n (z ▸ (F.ow.sub _ F.ow.loc).1)) e, fun _ _ _ q => q⟩
  have ce : ∀ c v, s.heap.IsCell c v → s'.heap.IsCell c v := fun c v q => by
    have ne := ns_cell n0 q
    obtain ⟨o, e, d⟩ := q
    exact ⟨o, m.stay c o ne e, d⟩
  have vi : ∀ x v, VarIs s.heap env x v → VarIs s'.heap env x v := fun x v q => by
    rcases q with ⟨k, m', n', e⟩ | ⟨k, c, l, q⟩
    · exact .inl ⟨k, m', m.up.ns n', e⟩
    · exact .inr ⟨k, c, l, ce c _ q⟩
  refine ⟨⟨⟨fun b o e => m.stay b o (fun z => ?_) (F.st.kept b o e), F.st.kind, F.st.glob, F.st.blt, fun b x => let ⟨o, e⟩ := F.st.low b x; al b o e, fun x h => let ⟨c, l, o, e⟩ := F.st.cel x h; ⟨c, l, al c o e⟩, F.st.sta, fun x d l => let ⟨v, a, b⟩ := F.st.vars x d l; ⟨v, vi x v a, b.mono fx⟩⟩,
    ⟨F.ow.sub, F.ow.loc, ⟨m0, n1⟩, fun x c a b y => let ⟨⟨v, q⟩, u⟩ := F.ow.cells x c a b y; ⟨⟨v, ce c v q⟩, u⟩, F.ow.cel, F.ow.bnd⟩, ?_⟩, ⟨m.same, fun b o n e => m.stay b o (fun z => n (z ▸ F.ow.loc)) e, al, fun _ x _ => x, fun _ y => .inl y, fun _ x => .inl x⟩⟩
  · have := (F.ow.sub _ F.ow.loc).2
    rw [← z, e] at this; cases this
  · obtain ⟨ad, f, g⟩ := F.owd
    refine ⟨ad, fun x d l => ?_, g⟩
    obtain ⟨a, b, c, e⟩ := f x d l
    exact ⟨vi _ _ a, b, c, e.mono fx fun o q => m.stay _ o c q⟩
end
/-! bytes of octets -/
noncomputable abbrev bsL (ns : List Nat) : List UInt8 := ns.map UInt8.ofNat
theorem latin_bs : ∀ {ns : List Nat}, (∀ n ∈ ns, n < 256) → latin (bsL ns) = ns
  | [], _ => rfl
  | n :: r, h => by
    show (UInt8.ofNat n).toNat :: latin (bsL r) = n :: r
    rw [latin_bs fun x hx => h x (List.mem_cons_of_mem _ hx), UInt8.toNat_ofNat_of_lt' (h n List.mem_cons_self)]
theorem byteArr_bs (ns : List Nat) : byteArr (ns.map fun n : Nat => (n : Int)) = (bsL ns).toArray := by
  unfold byteArr bsL
  rw [List.map_map]
  rfl
section
variable {prog : Program} {w : World} {base : Heap} {k : Nat}
theorem c_bytesN {ns : List Nat} (hr : ∀ n ∈ ns, n < 256) (hsz : ns.length ≤ 100) : OpL prog w base k (fun vs => call (.type "bytes") vs) [.list (nD ns)] (.bytes (bsL ns).toArray) := by
  have h := c_bytes (prog := prog) (w := w) (base := base) (k := k) (ns := ns.map fun n : Nat => (n : Int)) (fun n hn => by
    obtain ⟨m, hm, rfl⟩ := List.mem_map.mp hn
    have := hr m hm
    omega) (by rw [List.length_map, sizeLine_eq]; omega)
  rw [byteArr_bs, List.map_map] at h
  exact h
end
theorem encL_one {cs : List Nat} {n : Nat} (h : n < 256) : encL cs (bsL [n]) = 61 :: 63 :: (cs ++ [63, 113, 63] ++ writL n ++ [63, 61]) := by
  unfold encL
  rw [if_neg (by simp), latin_bs (by simpa using h)]
  simp
/-- the lines of those who were asked: figures and what is written of whom they hold -/
noncomputable def refL (O : List Nat) (j m : Nat) : List Nat := figL (O.getD (3 + j) 0) ++ encL isoL (bsL (((O.take 3).drop m).take 1))
theorem oct_take {O : List Nat} (h : OctOk O) (m : Nat) : ((O.take 3).drop m).take 1 = if m < 3 then [O.getD m 0] else [] := by
  have hl := h.len
  by_cases hm : m < 3
  · rw [if_pos hm]
    have hlt : m < (O.take 3).length := by simp; omega
    rw [List.drop_eq_getElem_cons hlt]
    simp [List.getElem_take, show m < O.length by omega]
  · rw [if_neg hm, List.drop_of_length_le (by simp; omega)]; rfl
theorem refL_in {O : List Nat} (h : OctOk O) {j m : Nat} (hm : m < 3) : refL O j m = figL (O.getD (3 + j) 0) ++ 61 :: (63 :: (isoL ++ [63, 113, 63] ++ writL (O.getD m 0) ++ [63, 61])) := by
  unfold refL
  rw [oct_take h, if_pos hm, encL_one (h.at (by omega))]
theorem refL_out {O : List Nat} (h : OctOk O) {j m : Nat} (hm : ¬ m < 3) : refL O j m = figL (O.getD (3 + j) 0) := by
  unfold refL
  rw [oct_take h, if_neg hm]
  simp [encL]
theorem fig_len (n : Nat) : (figL n).length = 2 := rfl
theorem refL_kv {O : List Nat} (h : OctOk O) {j m : Nat} (hj : j < 3) (hm : m < 3) : KvOk (figL (O.getD (3 + j) 0), 63 :: (isoL ++ [63, 113, 63] ++ writL (O.getD m 0) ++ [63, 61])) := by
  have wi := writ_is (h.at (i := 3 + j) (by omega))
  have wl := writL_len (O.getD m 0)
  refine ⟨wi.2.2.2.2.2.2.1, by simp, fun e => by simp at e, ?_⟩
  simp only [fig_len, List.length_cons, List.length_append, List.length_nil, isoL]
  omega
theorem refL_len {O : List Nat} (h : OctOk O) {j m : Nat} : (refL O j m).length ≤ 40 := by
  by_cases hm : m < 3
  · rw [refL_in h hm]
    have wl := writL_len (O.getD m 0)
    simp only [fig_len, List.length_cons, List.length_append, List.length_nil, isoL]
    omega
  · rw [refL_out h hm]; rw [fig_len]; omega
theorem nD_take (l : List Nat) (m : Nat) : nD (l.take m) = (nD l).take m := List.map_take
theorem nD_drop (l : List Nat) (m : Nat) : nD (l.drop m) = (nD l).drop m := List.map_drop
noncomputable def refLs (O M : List Nat) (n : Nat) : List (List Nat) := (List.range n).map fun j => refL O j (M.getD j 0)
section
variable {w : World} {base : Heap} {k : Nat}
/-- the lines are laid -/
theorem refused_pre {L : Addr} {O M : List Nat} {R : D → Prop} (G : Gl w base) (hO : OctOk O) (hM : M.length = 3) (hM3 : ∀ j, j < 3 → M.getD j 0 ≤ 3) :
    Ex P0 w base (k + 4) (callEnvC (fnData P0 36 171) L 171) (bindable (fnData P0 36 171).scope.names) [("octets", .list (nD O)), ("mates", .list (nD M))] [] ((bodyOf 36 171).take 2) (fun V' O' => Has V' [("lines", .list (sD (refLs O M 3)))] ∧ Has O' []) R := by
  have hz := sizeLine_eq
  have hl := hO.len
  refine Ex.step (Step.newList (by decide +kernel) rfl) ?_
  refine Ex.forN (ds := rD 3) (fun _ => True) (fun _ => [("octets", .list (nD O)), ("mates", .list (nD M))]) (fun n => [("lines", .list (sD (refLs O M n)))]) (range3 (m := 3) G.b_range (by with_unfolding_all rfl) (by decide)) trivial (Has.cons rfl (Has.cons rfl Has.nil)) (Has.cons rfl Has.nil) rfl (by decide +kernel) (fun j d hd _ => ?_) fun _ => ?_
  · obtain ⟨c, hc, rfl⟩ := map_getElem? hd
    obtain ⟨hj, rfl⟩ : j < 3 ∧ c = j := by
      rw [List.getElem?_eq_some_iff] at hc
      obtain ⟨h1, h2⟩ := hc
      rw [List.getElem_range] at h2
      exact ⟨by simpa using h1, h2.symm⟩
    have e3 : sD (refLs O M (c + 1)) = sD (refLs O M c) ++ [.str (S (refL O c (M.getD c 0)))] := by unfold refLs; rw [List.range_succ]; simp
    have hoj := hO.at (i := 3 + c) (by omega)
    have hm3 := hM3 c hj
    have cc := c_chr (prog := P0) (w := w) (base := base) (k := k + 4) (i := ((O.getD (3 + c) 0 : Nat) : Int)) (by omega) (by omega)
    rw [Int.toNat_natCast] at cc
    have et := oct_take hO (M.getD c 0)
    have sl : sliceD (nD (O.take 3)) (some ((M.getD c 0 : Nat) : Int)) (some ((M.getD c 0 + 1 : Nat) : Int)) = nD (((O.take 3).drop (M.getD c 0)).take 1) := by
      have ht : (nD (O.take 3)).length = 3 := by simp [hl]
      have c1 : clipAt 3 ((M.getD c 0 : Nat) : Int) = M.getD c 0 := by unfold clipAt; rw [if_neg (by omega)]; omega
      have c2 : clipAt 3 ((M.getD c 0 + 1 : Nat) : Int) = min (M.getD c 0 + 1) 3 := by unfold clipAt; rw [if_neg (by omega)]; omega
      simp only [sliceD, ht, Option.elim, c1, c2]
      rw [nD_take ((O.take 3).drop (M.getD c 0)) 1, nD_drop (O.take 3)]
      by_cases h3 : M.getD c 0 < 3
      · rw [show min (M.getD c 0 + 1) 3 - M.getD c 0 = 1 by omega]
      · rw [List.drop_of_length_le (by rw [ht]; omega)]; simp
    refine Ex.step (Step.append (x := "lines") (d := .str (S (refL O c (M.getD c 0)))) rfl ?_ (by unfold refLs; rw [List.length_map, List.length_map, List.length_range]; omega)) (Ex.nil ⟨trivial, Has.cons rfl (Has.cons rfl Has.nil), Has.cons ?_ Has.nil, rfl⟩)
    · refine Ev.binop (a := .str (S (figL (O.getD (3 + c) 0)))) (b := .str (S (encL isoL (bsL (((O.take 3).drop (M.getD c 0)).take 1))))) ?_ ?_ (op_catS (by have := refL_len hO (j := c) (m := M.getD c 0); unfold refL at this; rw [List.length_append] at this; omega))
      · refine Ev.sliceSS (x := quoteL (O.getD (3 + c) 0)) (l := some ((1 : Nat) : Int)) ?_ (Pt.some Ev.int) Pt.none (strCut_from _ (by simp [quoteL])) (by simp [quoteL, fig_len])
        exact Ev.callF G.n_quote (by with_unfolding_all rfl) G.d_quote.fn (Evs.cons (Ev.callB G.b_chr (by with_unfolding_all rfl) (Evs.cons (Ev.sub (a := .list (nD O)) (b := .int ((3 + c : Nat) : Int)) (Ev.name rfl) (Ev.binop (a := .int 3) (b := .int (c : Int)) Ev.int (Ev.name rfl) (op_addN (a := 3))) (g_listN (get_nD (by omega)))) Evs.nil) cc) Evs.nil) (def_quote (k := k + 3) G hoj)
      · refine Ev.callF G.n_header_encode (by with_unfolding_all rfl) G.d_header_encode.fn (Evs.cons (Ev.callT G.b_bytes (by with_unfolding_all rfl) (Evs.cons ?_ Evs.nil) (c_bytesN (ns := ((O.take 3).drop (M.getD c 0)).take 1) (fun n hn => hO.lt n (List.mem_of_mem_take (List.mem_of_mem_drop (List.mem_of_mem_take hn)))) (by simp; omega))) Evs.nil) (def_encode1 (k := k + 3) G (by simp; omega))
        rw [← sl]
        refine Ev.sliceL (ds := nD (O.take 3)) ?_ (Pt.some ?_) (Pt.some ?_) (by simp [hl]; omega)
        · rw [nD_take]
          exact Ev.sliceTo (a := 3) (Ev.name rfl) Ev.int (by simp [hl])
        · exact Ev.sub (a := .list (nD M)) (b := .int (c : Int)) (Ev.name rfl) (Ev.name rfl) (g_listN (get_nD (by omega)))
        · exact Ev.binop (a := .int ((M.getD c 0 : Nat) : Int)) (b := .int ((1 : Nat) : Int)) (Ev.sub (a := .list (nD M)) (b := .int (c : Int)) (Ev.name rfl) (Ev.name rfl) (g_listN (get_nD (by omega)))) Ev.int op_addN
    · rw [e3]; rfl
  · exact Ex.freeze (O' := []) (x := "lines") rfl (fun y e l => by simp at l) G.sys (Ex.nil ⟨Has.cons rfl Has.nil, Has.nil⟩)
end
end Mine
end
section
open PySem PySem.W PyProof.Rows PySem.Builtin.Str PySem.Builtin
namespace Mine
section
variable {prog : Program} {w : World} {base : Heap} {k : Nat} {env : Env} {V : List (Str × D)} {A : Around} {E : Value → Shared → Prop} {X : Addr → Prop} {s : Shared}
theorem callF_raw {x : Str} {a : Addr} {fd : FuncData} {e : Expr} {es : List Expr} {ds : List D} {p pos : Pos} {Q : Value → Shared → Prop} (h : GlobIs prog w base x (.ref a)) (hk : env.kindOf x = some .globalImplicit) (hf : FnIs base a fd) (ha : Evs prog w base k env V (e :: es) ds) (g : GA k A) (S : St w base env V X s)
    (ho : ∀ vs s', RepAll w X s'.heap vs ds → Ks s s' → wpAny (model prog w) A (call (.ref a) vs) Q E s') (he : starEach (e :: es) env = (false, eval e env) :: starEach es env := by rfl) :
    wpAny (model prog w) A (eval (.Call (.Name x p) (e :: es) [] pos) env) Q E s := by
  obtain ⟨o, h1, h2⟩ := hf
  exact Call_Name rfl (h.out A env s _ E p S.kind S.glob S.blt hk S.kept (callWith_def h2 (ha.out A X s _ E pos g S fun vs s' r ks =>
    ⟨(S.keeps ks).kept _ _ h1, ho vs s' r ks⟩) he))
end
section
variable {w : World} {base : Heap} {k : Nat}
noncomputable def refK (O M : List Nat) (n : Nat) : List (List Nat × List Nat) := (List.range n).map fun j => (figL (O.getD (3 + j) 0), 63 :: (isoL ++ [63, 113, 63] ++ writL (O.getD (M.getD j 0) 0) ++ [63, 61]))
theorem refLs_kv {O M : List Nat} {n : Nat} (hO : OctOk O) (h : ∀ j, j < n → M.getD j 0 < 3) : sD (refLs O M n) = (refK O M n).map fun p => .str (S (p.1 ++ 61 :: p.2)) := by
  show List.map _ (List.map _ _) = _
  unfold refK
  rw [List.map_map, List.map_map]
  refine List.map_congr_left fun j hj => ?_
  have hj := List.mem_range.mp hj
  show D.str (S (refL O j (M.getD j 0))) = _
  rw [refL_in hO (h j hj)]
  rfl
theorem refK_ok {O M : List Nat} {n : Nat} (hO : OctOk O) (hn : n ≤ 3) (h : ∀ j, j < n → M.getD j 0 < 3) : ∀ p ∈ refK O M n, KvOk p := fun p hp => by
  obtain ⟨j, hj, rfl⟩ := List.mem_map.mp hp
  have hj := List.mem_range.mp hj
  exact refL_kv hO (by omega) (h j hj)
/-- a line without a sign of equality: parse_keqv_list raises -/
theorem parse_few {L : Addr} {O M : List Nat} {j : Nat} (hO : OctOk O) (hj : j < 3) (hm : ¬ M.getD j 0 < 3) (h : ∀ i, i < j → M.getD i 0 < 3) :
    ExR P0 w base True k (callEnvC (fnData P0 25 107) L 107) (bindable (fnData P0 25 107).scope.names) (List.zip ["l"] [.list (sD (refLs O M 3))]) [] (bodyOf 25 107) := by
  refine ExR.step (Step.newDict (by decide +kernel) rfl) ?_
  refine ExR.for (ds := sD (refLs O M 3)) (EvIt.list (Ev.name rfl)) (fun i V' O' => Has V' [] ∧ Has O' [("parsed", .dict (parseD (refK O M i)))] ∧ O'.lookup ("elt" : Str) = none) ⟨Has.nil, Has.cons rfl Has.nil, rfl⟩ (by decide +kernel) j (by simpa [refLs] using hj) (fun i d Vi Oi hi hd hI => ?_) fun d Vi Oi hd hI => ?_
  · refine ⟨hI.2.2, ?_⟩
    have hd' : d = .str (S (refL O i (M.getD i 0))) := by
      obtain ⟨c, hc, rfl⟩ := map_getElem? hd
      obtain ⟨c', hc', rfl⟩ := map_getElem? hc
      rw [List.getElem?_eq_some_iff] at hc'
      obtain ⟨h1, h2⟩ := hc'
      rw [List.getElem_range] at h2
      rw [h2]
    rw [hd', refL_in hO (h i hi)]
    have e : refK O M (i + 1) = refK O M i ++ [(figL (O.getD (3 + i) 0), 63 :: (isoL ++ [63, 113, 63] ++ writL (O.getD (M.getD i 0) 0) ++ [63, 61]))] := by unfold refK; rw [List.range_succ]; simp
    have ht := parse_turn (w := w) (base := base) (k := k) (L := L) (acc := parseD (refK O M i)) (R := fun _ => False) (refL_kv (j := i) (m := M.getD i 0) hO (by omega) (h i hi)) (by have := parseD_len (refK O M i); simp [refK] at this; simp [refK]; omega)
    rw [← parseD_snoc, ← e] at ht
    exact Ex.post (Ex.weak ht hI.1.under hI.2.1) (fun _ _ z => z.2) fun _ z => z
  · refine ⟨hI.2.2, ?_⟩
    have hd' : d = .str (S (refL O j (M.getD j 0))) := by
      obtain ⟨c, hc, rfl⟩ := map_getElem? hd
      obtain ⟨c', hc', rfl⟩ := map_getElem? hc
      rw [List.getElem?_eq_some_iff] at hc'
      obtain ⟨h1, h2⟩ := hc'
      rw [List.getElem_range] at h2
      rw [h2]
    rw [hd', refL_out hO hm]
    have wi := writ_is (hO.at (i := 3 + j) (by omega))
    have cs := c_splitN (prog := P0) (w := w) (base := base) (k := k) (l := figL (O.getD (3 + j) 0)) (c := 61) (n := 1) (by decide) (by decide) (by simp [fig_len])
    rw [spl_none 1 wi.2.2.2.2.2.2.1] at cs
    exact ExR.unpackFew (d := .str (S (figL (O.getD (3 + j) 0)))) (Ev.meth (id := "str.split") (a := .str (S (figL (O.getD (3 + j) 0)))) (ds := [.str (S [61]), .int 1]) (Ev.name rfl) (Evs.cons (Ev.strS (by decide +kernel)) (Evs.cons Ev.int Evs.nil)) (strne "str" (by decide)) PySem.F.plainAttrs_str PySem.F.slot_str_split PySem.F.type_str_split cs)
theorem refused_first {M : List Nat} : ∀ n, (∃ j, j < n ∧ ¬ M.getD j 0 < 3) → ∃ j, j < n ∧ ¬ M.getD j 0 < 3 ∧ ∀ i, i < j → M.getD i 0 < 3
  | 0, ⟨j, hj, _⟩ => absurd hj (Nat.not_lt_zero j)
  | n + 1, ⟨j, hj, h⟩ => by
    by_cases hp : ∃ j, j < n ∧ ¬ M.getD j 0 < 3
    · obtain ⟨j, a, b, c⟩ := refused_first n hp
      exact ⟨j, by omega, b, c⟩
    · have e : j = n := by
        rcases Nat.lt_or_ge j n with z | z
        · exact absurd ⟨j, z, h⟩ hp
        · omega
      subst e
      refine ⟨j, hj, h, fun i hi => ?_⟩
      rcases Nat.lt_or_ge (M.getD i 0) 3 with z | z
      · exact z
      · exact absurd ⟨i, hi, by omega⟩ hp
theorem hide_at (h : Heap) (a : Addr) : (hideAll h [a]).get? a = none := Heap.hide_self h a
theorem def_refused {A : Around} {env : Env} {B : Str → Bool} {V Ow : List (Str × D)} {X Y : Addr → Prop} {s : Shared} {Q : Value → Shared → Prop} {E : Value → Shared → Prop} {vs : List Value} {O M : List Nat} (G : Gl w base) (g : GA (k + 5) A) (hfr : A.frames = some [env]) (hfe : env.frame = some env.locals)
    (F : Frm w base env B V Ow X Y s) (hO : OctOk O) (hM : M.length = 3) (hM3 : ∀ j, j < 3 → M.getD j 0 ≤ 3) (r : RepAll w X s.heap vs [.list (nD O), .list (nD M)]) (q : ∀ s', Mvd env.locals s s' → Q (.bool (decide (3 ∈ M))) s') :
    wpAny (model P0 w) A (call (.ref 171) vs) Q E s := by
  have G1 := G.kp F.st.kept
  refine wpAny_call (call_core (body := bodyOf 36 171) (ps := ["octets", "mates"]) (ds := [.list (nD O), .list (nD M)]) g.room G.d_law_refused (by with_unfolding_all rfl) (fun vals h => ?_) (by decide +kernel) (by decide) rfl F.st.ok r fun Y1 s₁ yf le k1 F1 => ?_)
  · obtain ⟨v, u, rfl⟩ := len2 h
    with_unfolding_all rfl
  generalize hE : callEnvC (fnData P0 36 171) s.heap.objs.size 171 = er at F1 ⊢
  have hfr1 : (A.deeper er).frames = some [er, env] := Around.frames_deeper hfr
  have g1 : GA (k + 4) (A.deeper er) := g.deeper er
  rw [show bodyOf 36 171 = (bodyOf 36 171).take 2 ++ (bodyOf 36 171).drop 2 from (List.take_append_drop 2 _).symm]
  have pre := refused_pre (k := k) (L := s.heap.objs.size) (R := fun _ => False) G1 hO hM hM3
  rw [hE] at pre
  refine wpAny_execs_append (pre.out (A.deeper er) _ Y1 s₁ _ _ g1 F1 (fun V2 O2 X2 Y2 s2 n F2 t2 => ?_) fun d v X' Y' s' rd _ _ _ => rd.elim)
  have F2' := F2.weak n.1 n.2
  obtain ⟨hs1, ht1, rfl, kp1⟩ := k1
  obtain ⟨hs2, ht2, e2⟩ := t2.same
  by_cases hm : ∃ j, j < 3 ∧ ¬ M.getD j 0 < 3
  · obtain ⟨j, hj, hjm, hjl⟩ := refused_first 3 hm
    have h3 : decide (3 ∈ M) = true := by
      rw [decide_eq_true_eq]
      have : M.getD j 0 = 3 := by have := hM3 j hj; omega
      rw [← this]
      have hlt : j < M.length := by omega
      simp [hlt]
    rw [h3] at q
    have nL : base.get? env.locals = none := (F.ow.sub _ F.ow.loc).2
    have kb : Kp base (hideAll s.heap [env.locals]) := fun b o e => hideAll_get _ (F.st.kept b o e) fun hm => by
      rw [List.mem_singleton] at hm
      rw [hm, nL] at e; cases e
    have hko : env.scope.kind ≠ .module := by rw [F.st.kind]; decide
    subst hE
    refine wpAny_execs_cons (wpAny_Try_except (wpAny_execs_cons (wpAny_Expr_any (callF_raw G1.n_parse_keqv_list (by with_unfolding_all rfl) G1.d_parse_keqv_list.fn (Evs.cons (Ev.name rfl) Evs.nil) g1 F2'.st fun vs3 s3 r3 k3 => ?_))))
    have F3 := F2'.ks k3
    obtain ⟨m3, n3⟩ := F3.ow.ns
    obtain ⟨m0, n0⟩ := F.ow.ns
    have nr : s.heap.get? s.heap.objs.size = none := get_size _
    refine call_raises (k := k + 3) (base := s.heap) (B0 := hideAll s.heap [env.locals]) (body := bodyOf 25 107) (ps := ["l"]) (ds := [.list (sD (refLs O M 3))]) g1 hfr1 G1.d_parse_keqv_list (by with_unfolding_all rfl) (fun vals h => ?_) (by decide +kernel) (by decide) rfl F3.st.ok r3 (fun b o e => F3.st.kept b o (of_hideAll _ e))
      (Heap.FunFrames.cons (by rw [F3.st.kind]; decide) rfl n3 ?_ (Heap.FunFrames.cons hko hfe (n0.keeps F3.st.kept) (hide_at _ _) trivial)) (fun L base' _ => parse_few hO hj hjm hjl) fun h' tk e a0 fl up => ?_
    · obtain ⟨v, rfl⟩ := len1 h
      with_unfolding_all rfl
    · cases z : (hideAll s.heap [env.locals]).get? s.heap.objs.size with
      | none => rfl
      | some o => have := of_hideAll _ z; rw [nr] at this; cases this
    · refine caught_true hfr1 rfl F3.st.kind F3.st.glob F3.st.blt (by with_unfolding_all rfl) G.b_ValueError kb fl (PassesOwnAt.leaving) fun h2 st2 up2 => ?_
      obtain ⟨hs3, ht3, rfl, kp3⟩ := k3
      subst e2
      refine q _ ⟨⟨h2, tk, rfl⟩, fun b o ne e => st2 b o (hideAll_get _ e fun hm => ne (List.mem_singleton.mp hm)), ?_⟩
      exact ((Heap.UpToSlots.of_keeps F3.st.kept).trans up).trans up2
  · have hlt : ∀ j, j < 3 → M.getD j 0 < 3 := fun j hj => by
      rcases Nat.lt_or_ge (M.getD j 0) 3 with z | z
      · exact z
      · exact absurd ⟨j, hj, by omega⟩ hm
    have h3 : decide (3 ∈ M) = false := by
      rw [decide_eq_false_iff_not]
      intro hmem
      obtain ⟨j, hj, e⟩ := List.getElem_of_mem hmem
      have := hlt j (by omega)
      simp [hj] at this
      omega
    rw [h3] at q
    have hp := def_parse (k := k + 3) (kvs := refK O M 3) G1 (refK_ok hO (Nat.le_refl _) hlt) (by simp [refK])
    rw [← refLs_kv hO hlt] at hp
    have ex : Ex P0 w s.heap (k + 4) er (bindable (fnData P0 36 171).scope.names) [("lines", .list (sD (refLs O M 3)))] [] ((bodyOf 36 171).drop 2) (fun _ _ => False) (fun d => d = .bool false) := by
      rw [← hE]
      exact Ex.tryRet (Ex.step (Step.expr (Ev.callF G1.n_parse_keqv_list (by with_unfolding_all rfl) G1.d_parse_keqv_list.fn (Evs.cons (Ev.name rfl) Evs.nil) hp)) (Ex.ret (d := .bool false) Ev.bool rfl))
    refine ex.out (A.deeper er) X2 Y2 s2 _ _ g1 F2' (fun _ _ _ _ _ n => n.elim) fun d v X' Y' s' rd rv t kp => ?_
    subst rd
    obtain rfl := rv.inv
    obtain ⟨hs3, ht3, rfl⟩ := t.same
    subst e2
    exact q _ (.of ⟨hs3, ht3, rfl, kp⟩)
end
end Mine
end
section
open PySem PySem.W PyProof.Rows PySem.Builtin.Str PySem.Builtin
namespace Mine
/-! what an office does, told without a program -/
structure OSt where
  pos : List Nat
  kv : List (List Nat × List Nat)
  tk : List (List Nat × List Nat)
  held : Held
  draw : Int
noncomputable def wW (O : List Nat) : List (List Nat) := O.map writL
noncomputable def rest (O : List Nat) (A : List (List Nat)) (k p : Nat) : List Nat := joinL 39 (rowW (wW O) k ((A.getD k []).drop p))
noncomputable def nxt (A : List (List Nat)) (pos : List Nat) (k : Nat) : Nat := (A.getD k []).getD (pos.getD k 0) 3
noncomputable def isHeld (h : Held) (k : Nat) : Bool := h.any fun q => q.2.2 == k
noncomputable def freeL (A : List (List Nat)) (s : OSt) : List Nat := (List.range 3).filter fun k => !isHeld s.held k && !(nxt A s.pos k == 3)
noncomputable def rkP (P : List (List Nat)) (a x : Nat) : Nat := (P.getD a []).idxOf x
noncomputable def barsL (h : Held) (a : Nat) : List Nat := 3 :: (h.filter fun q => q.1 == a).map fun q => q.2.2
noncomputable def accB (P : List (List Nat)) (h : Held) (a k : Nat) : Bool := ((barsL h a).filter fun b => decide (rkP P a b < rkP P a k)).isEmpty
noncomputable def putH (h : Held) (n : Nat × Nat × Nat) : Held := if h.any (fun q => q.1 == n.1) then h.map (fun q => if q.1 = n.1 then n else q) else h ++ [n]
noncomputable def whoN (A : List (List Nat)) (s : OSt) : Nat := (freeL A s).getD (s.draw % ((freeL A s).length : Int)).toNat 0
noncomputable def heldL (O : List Nat) (n : Nat × Nat × Nat) : List Nat × List Nat := (figL (O.getD (3 + n.1) 0), valL n.2.1 (writL (O.getD n.2.2 0)))
noncomputable def ask (O : List Nat) (A P : List (List Nat)) (t : Nat) (s : OSt) (k : Nat) : OSt where
  pos := s.pos.set k (s.pos.getD k 0 + 1)
  kv := s.kv ++ [(figL (O.getD k 0), rest O A k (s.pos.getD k 0 + 1))]
  tk := if accB P s.held (nxt A s.pos k) k then s.tk ++ [heldL O (nxt A s.pos k, t, k)] else s.tk
  held := if accB P s.held (nxt A s.pos k) k then putH s.held (nxt A s.pos k, t, k) else s.held
  draw := s.draw / 3
noncomputable def offSt (O : List Nat) (A P : List (List Nat)) (s0 : OSt) : Nat → OSt
  | 0 => s0
  | t + 1 => ask O A P t (offSt O A P s0 t) (whoN A (offSt O A P s0 t))
noncomputable def stateD (O : List Nat) (A : List (List Nat)) (pos : List Nat) : List (Str × D) := (List.range 3).map fun k => (S (figL (O.getD k 0)), .str (S (rest O A k (pos.getD k 0))))
noncomputable def OrdOk (A : List (List Nat)) : Prop := ∀ k, k < 3 → (A.getD k []).Perm [0, 1, 2, 3]
structure OffOk (O : List Nat) (A : List (List Nat)) (t : Nat) (s : OSt) : Prop where
  pl : s.pos.length = 3
  pp : ∀ k, k < 3 → s.pos.getD k 0 ≤ (A.getD k []).idxOf 3
  kl : s.kv.length = 3 + t
  ko : ∀ p ∈ s.kv, KvOk p
  ke : parseD s.kv = stateD O A s.pos
  tl : s.tk.length ≤ t
  to : ∀ p ∈ s.tk, KvOk p
  te : parseD s.tk = heldD O s.held
  ho : HeldOk s.held
theorem perm_len {l : List Nat} (h : l.Perm [0, 1, 2, 3]) : l.length = 4 := h.length_eq
theorem perm_mem {l : List Nat} (h : l.Perm [0, 1, 2, 3]) {x : Nat} : x ∈ l ↔ x < 4 := by
  rw [h.mem_iff]; simp; omega
theorem perm_nodup {l : List Nat} (h : l.Perm [0, 1, 2, 3]) : l.Nodup := h.symm.nodup (by decide)
theorem perm_self {l : List Nat} (h : l.Perm [0, 1, 2, 3]) : l.idxOf 3 < 4 := by
  have := List.idxOf_lt_length_of_mem ((perm_mem h).mpr (by decide : 3 < 4))
  rwa [perm_len h] at this
theorem idxOf_getD {l : List Nat} (hn : l.Nodup) {i : Nat} (hi : i < l.length) : l.idxOf (l.getD i 3) = i := by
  have e : l.getD i 3 = l[i] := by simp [hi]
  rw [e]
  exact hn.idxOf_getElem i hi
theorem wW_get {O : List Nat} (h : OctOk O) {i : Nat} (hi : i < 6) : (wW O).getD i [] = writL (O.getD i 0) := by
  have hl := h.len
  unfold wW
  simp [show i < O.length by omega]
/-- the words of a row are short and bear no apostrophe -/
theorem row_ok {O : List Nat} (h : OctOk O) {k : Nat} (hk : k < 3) {l : List Nat} : ∀ x ∈ rowW (wW O) k l, 39 ∉ x ∧ 34 ∉ x ∧ x ≠ [] ∧ x.length ≤ 3 := fun x hx => by
  obtain ⟨j, _, rfl⟩ := List.mem_map.mp hx
  have key : ∀ i, i < 6 → 39 ∉ (wW O).getD i [] ∧ 34 ∉ (wW O).getD i [] ∧ (wW O).getD i [] ≠ [] ∧ ((wW O).getD i []).length ≤ 3 := fun i hi => by
    rw [wW_get h hi]
    have wi := writ_is (h.at hi)
    exact ⟨wi.2.2.1, wi.2.2.2.1, wi.2.2.2.2.2.1, writL_len _⟩
  split
  · exact key _ (by omega)
  · exact key _ (by omega)
theorem rest_len {O : List Nat} (h : OctOk O) {A : List (List Nat)} (hA : OrdOk A) {k p : Nat} (hk : k < 3) : (rest O A k p).length ≤ 44 := by
  have l1 := joinL_length 39 (rowW (wW O) k ((A.getD k []).drop p))
  have l2 := flat_short (ws := rowW (wW O) k ((A.getD k []).drop p)) fun a ha => by have := (row_ok h hk a ha).2.2.2; omega
  have l3 : (rowW (wW O) k ((A.getD k []).drop p)).length ≤ 4 := by
    unfold rowW
    rw [List.length_map, List.length_drop, perm_len (hA k hk)]; omega
  unfold rest
  omega
theorem joinL_head {c : Nat} {a : List Nat} {r : List (List Nat)} (ha : a ≠ []) : (joinL c (a :: r)).head? = a.head? := by
  cases a with
  | nil => exact absurd rfl ha
  | cons x t => cases r <;> rfl
theorem rest_head {O : List Nat} (h : OctOk O) {A : List (List Nat)} (hA : OrdOk A) {k p : Nat} (hk : k < 3) (hp : p < 4) : rest O A k p ≠ [] ∧ (rest O A k p).head? ≠ some 34 := by
  have hl : p < (A.getD k []).length := by rw [perm_len (hA k hk)]; exact hp
  have e : rowW (wW O) k ((A.getD k []).drop p) = (fun j => if j < 3 then (wW O).getD (3 + j) [] else (wW O).getD k []) (A.getD k [])[p] :: rowW (wW O) k ((A.getD k []).drop (p + 1)) := by
    rw [List.drop_eq_getElem_cons hl]; rfl
  have rk := row_ok (l := (A.getD k []).drop p) h hk
  unfold rest
  rw [e] at rk ⊢
  generalize (fun j => if j < 3 then (wW O).getD (3 + j) [] else (wW O).getD k []) (A.getD k [])[p] = a at rk ⊢
  have ra := rk a List.mem_cons_self
  have hh := joinL_head (c := 39) (r := rowW (wW O) k ((A.getD k []).drop (p + 1))) ra.2.2.1
  refine ⟨fun z => ?_, fun z => ?_⟩
  · rw [z] at hh
    cases a with
    | nil => exact ra.2.2.1 rfl
    | cons x t => cases hh
  · rw [hh] at z
    exact ra.2.1 (List.mem_of_mem_head? z)
theorem unq_rest {O : List Nat} (h : OctOk O) {A : List (List Nat)} (hA : OrdOk A) {k p : Nat} (hk : k < 3) (hp : p < 4) : unq (rest O A k p) = rest O A k p := by
  unfold unq
  rw [if_neg fun z => (rest_head h hA hk hp).2 z.1]
theorem rest_kv {O : List Nat} (h : OctOk O) {A : List (List Nat)} (hA : OrdOk A) {k p : Nat} (hk : k < 3) (hp : p < 4) : KvOk (figL (O.getD k 0), rest O A k p) := by
  have rh := rest_head h hA hk hp
  refine ⟨(writ_is (h.at (by omega))).2.2.2.2.2.2.1, rh.1, fun e => rh.2 ?_, ?_⟩
  · show (figL (O.getD k 0), rest O A k p).2.head? = _
    rw [e]; rfl
  · have := rest_len h hA (p := p) hk
    rw [fig_len]; show 2 + (rest O A k p).length ≤ 1000; omega
theorem valL_eq (t : Nat) (x : List Nat) : valL t x = 63 :: (digL t ++ [63, 113, 63] ++ x ++ [63, 61]) := by simp [valL, joinL]
theorem held_kv {O : List Nat} (h : OctOk O) {n : Nat × Nat × Nat} (h1 : n.1 < 3) (h3 : n.2.2 < 3) : KvOk (heldL O n) ∧ unq (heldL O n).2 = (heldL O n).2 := by
  have vl := val_len (t := n.2.1) (x := writL (O.getD n.2.2 0)) (by have := writL_len (O.getD n.2.2 0); omega)
  have e : (heldL O n).2 = 63 :: (digL n.2.1 ++ [63, 113, 63] ++ writL (O.getD n.2.2 0) ++ [63, 61]) := valL_eq _ _
  refine ⟨⟨(writ_is (h.at (by omega))).2.2.2.2.2.2.1, ?_, fun z => ?_, ?_⟩, ?_⟩
  · rw [e]; simp
  · rw [e] at z; simp at z
  · show (figL _).length + (valL _ _).length ≤ 1000
    rw [fig_len]; omega
  · rw [e]; unfold unq; rw [if_neg fun z => by simp at z]
end Mine
end
section
open PySem PySem.W PyProof.Rows PySem.Builtin.Str PySem.Builtin
namespace Mine
theorem putH_keys (h : Held) (n : Nat × Nat × Nat) : (putH h n).map (·.1) = if h.any (fun q => q.1 == n.1) then h.map (·.1) else h.map (·.1) ++ [n.1] := by
  unfold putH
  split
  · rw [List.map_map]
    refine List.map_congr_left fun q _ => ?_
    show (if q.1 = n.1 then n else q).1 = q.1
    split
    · rename_i e; exact e.symm
    · rfl
  · simp
theorem putH_mem {h : Held} {n q : Nat × Nat × Nat} (hq : q ∈ putH h n) : q = n ∨ q ∈ h := by
  unfold putH at hq
  split at hq
  · obtain ⟨r, hr, e⟩ := List.mem_map.mp hq
    split at e
    · exact .inl e.symm
    · exact .inr (e ▸ hr)
  · rcases List.mem_append.mp hq with z | z
    · exact .inr z
    · exact .inl (List.mem_singleton.mp z)
theorem putH_ok {h : Held} {n : Nat × Nat × Nat} (ho : HeldOk h) (h1 : n.1 < 3) (h2 : n.2.1 < 10) (h3 : n.2.2 < 3) : HeldOk (putH h n) := by
  refine ⟨?_, fun q hq => ?_⟩
  · rw [putH_keys]
    split
    · exact ho.keys
    · rename_i hz
      refine List.nodup_append.mpr ⟨ho.keys, by simp, fun a ha b hb e => ?_⟩
      rw [List.mem_singleton] at hb
      subst hb e
      obtain ⟨q, hq, e⟩ := List.mem_map.mp ha
      exact hz (List.any_eq_true.mpr ⟨q, hq, by rw [beq_iff_eq]; exact e⟩)
  · rcases putH_mem hq with rfl | z
    · exact ⟨h1, h2, h3⟩
    · exact ho.ok q z
theorem heldD_put {O : List Nat} {h : Held} {n : Nat × Nat × Nat} (hO : OctOk O) (ho : HeldOk h) (h1 : n.1 < 3) : putD (heldD O h) (S (heldL O n).1) (.str (S (heldL O n).2)) = heldD O (putH h n) := by
  have key : ∀ q ∈ h, S (figL (O.getD (3 + q.1) 0)) = S (figL (O.getD (3 + n.1) 0)) ↔ q.1 = n.1 := fun q hq => by
    obtain ⟨q1, _, _⟩ := ho.ok q hq
    constructor
    · intro e
      have := hO.inj (by omega) (by omega) (figL_inj (hO.at (by omega)) (hO.at (by omega)) (S_inj.mp e))
      omega
    · intro e; rw [e]
  have ha : (heldD O h).any (fun kv => decide (kv.1 = S (heldL O n).1)) = h.any fun q => q.1 == n.1 := by
    unfold heldD
    rw [List.any_map]
    rw [Bool.eq_iff_iff, List.any_eq_true, List.any_eq_true]
    constructor
    · rintro ⟨q, hq, e⟩; exact ⟨q, hq, by rw [beq_iff_eq]; exact (key q hq).mp (of_decide_eq_true e)⟩
    · rintro ⟨q, hq, e⟩; exact ⟨q, hq, decide_eq_true ((key q hq).mpr (beq_iff_eq.mp e))⟩
  unfold putD putH
  rw [ha]
  split
  · unfold heldD
    rw [List.map_map, List.map_map]
    refine List.map_congr_left fun q hq => ?_
    show (if S (figL (O.getD (3 + q.1) 0)) = S (figL (O.getD (3 + n.1) 0)) then _ else _) = _
    by_cases e : q.1 = n.1
    · rw [if_pos ((key q hq).mpr e)]
      simp only [Function.comp, if_pos e]
      rw [e]; rfl
    · rw [if_neg fun z => e ((key q hq).mp z)]
      simp only [Function.comp, if_neg e]
  · unfold heldD
    rw [List.map_append]; rfl
theorem set_getD {l : List Nat} {i j x : Nat} (hi : i < l.length) : (l.set i x).getD j 0 = if j = i then x else l.getD j 0 := by
  by_cases h : j = i
  · subst h; simp [hi]
  · rw [if_neg h]; simp [List.getElem?_set, Ne.symm h]
theorem stateD_put {O : List Nat} {A : List (List Nat)} {pos : List Nat} {k p : Nat} (hO : OctOk O) (hk : k < 3) (hp : pos.length = 3) : putD (stateD O A pos) (S (figL (O.getD k 0))) (.str (S (rest O A k p))) = stateD O A (pos.set k p) := by
  have key : ∀ i, i < 3 → (S (figL (O.getD i 0)) = S (figL (O.getD k 0)) ↔ i = k) := fun i hi => by
    constructor
    · intro e
      exact hO.inj (by omega) (by omega) (figL_inj (hO.at (by omega)) (hO.at (by omega)) (S_inj.mp e))
    · intro e; rw [e]
  have ha : (stateD O A pos).any (fun kv => decide (kv.1 = S (figL (O.getD k 0)))) = true := by
    unfold stateD
    rw [List.any_map, List.any_eq_true]
    exact ⟨k, List.mem_range.mpr hk, by simp⟩
  unfold putD
  rw [if_pos ha]
  unfold stateD
  rw [List.map_map]
  refine List.map_congr_left fun i hi => ?_
  have hi := List.mem_range.mp hi
  show (if S (figL (O.getD i 0)) = S (figL (O.getD k 0)) then _ else _) = _
  rw [set_getD (by omega)]
  by_cases e : i = k
  · rw [if_pos ((key i hi).mpr e), if_pos e, e]
  · rw [if_neg fun z => e ((key i hi).mp z), if_neg e]
theorem getD_at {l : List Nat} {i d : Nat} (h : i < l.length) : l.getD i d = l[i] := by simp [h]
theorem free_is {A : List (List Nat)} {s : OSt} {k : Nat} (h : k ∈ freeL A s) : k < 3 ∧ isHeld s.held k = false ∧ nxt A s.pos k ≠ 3 := by
  simp only [freeL, List.mem_filter, List.mem_range, Bool.and_eq_true, Bool.not_eq_true', beq_eq_false_iff_ne] at h
  exact ⟨h.1, h.2.1, h.2.2⟩
theorem nxt_lt {A : List (List Nat)} {pos : List Nat} {k : Nat} (hA : OrdOk A) (hk : k < 3) (hp : pos.getD k 0 ≤ (A.getD k []).idxOf 3) (hn : nxt A pos k ≠ 3) : nxt A pos k < 3 ∧ pos.getD k 0 < (A.getD k []).idxOf 3 := by
  have hl := perm_len (hA k hk)
  have hs := perm_self (hA k hk)
  have hlt : pos.getD k 0 < (A.getD k []).length := by omega
  have hm : nxt A pos k ∈ A.getD k [] := by
    unfold nxt
    rw [getD_at hlt]
    exact List.getElem_mem hlt
  have h4 := (perm_mem (hA k hk)).mp hm
  refine ⟨by omega, ?_⟩
  rcases Nat.lt_or_ge (pos.getD k 0) ((A.getD k []).idxOf 3) with z | z
  · exact z
  · exfalso
    apply hn
    unfold nxt
    rw [show pos.getD k 0 = (A.getD k []).idxOf 3 by omega]
    have : (A.getD k []).idxOf 3 < (A.getD k []).length := by omega
    rw [getD_at this, List.getElem_idxOf]
theorem ask_ok {O : List Nat} {A P : List (List Nat)} {t k : Nat} {s : OSt} (hO : OctOk O) (hA : OrdOk A) (ht : t < 10) (h : OffOk O A t s) (hk : k ∈ freeL A s) : OffOk O A (t + 1) (ask O A P t s k) := by
  obtain ⟨hk3, hnh, hn3⟩ := free_is hk
  obtain ⟨hn, hp⟩ := nxt_lt hA hk3 (h.pp k hk3) hn3
  have hs := perm_self (hA k hk3)
  have kv := rest_kv hO hA (p := s.pos.getD k 0 + 1) hk3 (by omega)
  have uq := unq_rest hO hA (p := s.pos.getD k 0 + 1) hk3 (by omega)
  refine ⟨by simp [ask, h.pl], fun i hi => ?_, by simp [ask, h.kl]; omega, fun p hp => ?_, ?_, ?_, fun p hp => ?_, ?_, ?_⟩
  · show (s.pos.set k _).getD i 0 ≤ _
    rw [set_getD (by rw [h.pl]; exact hk3)]
    split
    · rename_i e; subst e; omega
    · exact h.pp i hi
  · rcases List.mem_append.mp hp with z | z
    · exact h.ko p z
    · rw [List.mem_singleton.mp z]; exact kv
  · show parseD (s.kv ++ [_]) = stateD O A (s.pos.set k _)
    rw [parseD_snoc, h.ke, uq]
    exact stateD_put hO hk3 h.pl
  · show (if accB P s.held (nxt A s.pos k) k then s.tk ++ [_] else s.tk).length ≤ t + 1
    have := h.tl
    split
    · simp; omega
    · omega
  · have hp : p ∈ (if accB P s.held (nxt A s.pos k) k then s.tk ++ [heldL O (nxt A s.pos k, t, k)] else s.tk) := hp
    split at hp
    · rcases List.mem_append.mp hp with z | z
      · exact h.to p z
      · rw [List.mem_singleton.mp z]; exact (held_kv hO (by exact hn) (by exact hk3)).1
    · exact h.to p hp
  · show parseD (if accB P s.held (nxt A s.pos k) k then s.tk ++ [heldL O (nxt A s.pos k, t, k)] else s.tk) = heldD O (if accB P s.held (nxt A s.pos k) k then putH s.held (nxt A s.pos k, t, k) else s.held)
    split
    · rw [parseD_snoc, h.te, (held_kv hO (n := (nxt A s.pos k, t, k)) (by exact hn) (by exact hk3)).2]
      exact heldD_put hO h.ho hn
    · exact h.te
  · show HeldOk (if accB P s.held (nxt A s.pos k) k then putH s.held (nxt A s.pos k, t, k) else s.held)
    split
    · exact putH_ok h.ho hn ht hk3
    · exact h.ho
theorem who_mem {A : List (List Nat)} {s : OSt} (h : freeL A s ≠ []) : whoN A s ∈ freeL A s := by
  have hl : 0 < (freeL A s).length := List.length_pos_iff.mpr h
  have a := Int.emod_nonneg s.draw (b := ((freeL A s).length : Int)) (by omega)
  have b := Int.emod_lt_of_pos s.draw (b := ((freeL A s).length : Int)) (by omega)
  have hlt : (s.draw % ((freeL A s).length : Int)).toNat < (freeL A s).length := by omega
  unfold whoN
  rw [getD_at hlt]
  exact List.getElem_mem hlt
theorem off_ok {O : List Nat} {A P : List (List Nat)} {s0 : OSt} (hO : OctOk O) (hA : OrdOk A) (h0 : OffOk O A 0 s0) : ∀ t, t ≤ 10 → (∀ m, m < t → freeL A (offSt O A P s0 m) ≠ []) → OffOk O A t (offSt O A P s0 t)
  | 0, _, _ => h0
  | t + 1, ht, h => ask_ok hO hA (by omega) (off_ok hO hA h0 t (by omega) fun m hm => h m (by omega)) (who_mem (h t (by omega)))
end Mine
end
section
open PySem PySem.W PyProof.Rows PySem.Builtin.Str PySem.Builtin
namespace Mine
section
variable {prog : Program} {w : World} {base : Heap} {k : Nat} {env : Env} {B : Str → Bool} {V V' O O' : List (Str × D)} {N N1 : List (Str × D) → List (Str × D) → Prop} {R : D → Prop}
theorem Ex.append {l1 l2 : List Stmt} (h : Ex prog w base k env B V O l1 N1 R) (r : ∀ V' O', N1 V' O' → Ex prog w base k env B V' O' l2 N R) : Ex prog w base k env B V O (l1 ++ l2) N R := Seal.mk fun A X Y s Q E g F q qr =>
  wpAny_execs_append (h.out A X Y s _ E g F (fun V' O' X' Y' s' n F' t => (r V' O' n).out A X' Y' s' Q E g F' (fun V'' O'' X'' Y'' s'' n' F'' t' => q V'' O'' X'' Y'' s'' n' F'' (t.trans F.st.low t'))
    fun d v X'' Y'' s'' rd rv t' kp => qr d v X'' Y'' s'' rd rv (t.trans F.st.low t') kp) fun d v X' Y' s' rd rv t kp => qr d v X' Y' s' rd rv t kp)
end
noncomputable abbrev kvS (p : List Nat × List Nat) : D := .str (S (p.1 ++ 61 :: p.2))
noncomputable def heldS (O : List Nat) (h : Held) : List Str := h.map fun q => S (writL (O.getD q.2.2 0))
noncomputable def freeN (A : List (List Nat)) (s : OSt) (n : Nat) : List Nat := (List.range n).filter fun k => !isHeld s.held k && !(nxt A s.pos k == 3)
theorem freeN_snoc (A : List (List Nat)) (s : OSt) (n : Nat) : freeN A s (n + 1) = freeN A s n ++ if !isHeld s.held n && !(nxt A s.pos n == 3) then [n] else [] := by
  unfold freeN
  rw [List.range_succ, List.filter_append, List.filter_cons, List.filter_nil]
noncomputable def freeD (O : List Nat) (A : List (List Nat)) (s : OSt) (k : Nat) : D := .tup [.int (k : Int), .str (S ((wW O).getD (3 + nxt A s.pos k) [])), .str (S (rest O A k (s.pos.getD k 0 + 1)))]
/-- the word that k's line has in the place of x -/
noncomputable def cwO (O : List Nat) (k x : Nat) : List Nat := if x < 3 then (wW O).getD (3 + x) [] else (wW O).getD k []
theorem cwO_inj {O : List Nat} (hO : OctOk O) {k x y : Nat} (hk : k < 3) (hx : x < 4) (hy : y < 4) (h : cwO O k x = cwO O k y) : x = y := by
  have key : ∀ z, z < 4 → cwO O k z = writL (O.getD (if z < 3 then 3 + z else k) 0) := fun z hz => by
    unfold cwO
    split
    · rw [wW_get hO (by omega)]
    · rw [wW_get hO (by omega)]
  rw [key x hx, key y hy] at h
  have hi : ∀ z, z < 4 → (if z < 3 then 3 + z else k) < 6 := fun z hz => by split <;> omega
  have := hO.inj (hi x hx) (hi y hy) (writL_inj (hO.at (hi x hx)) (hO.at (hi y hy)) h)
  split at this <;> split at this <;> omega
theorem held_mem {O : List Nat} {h : Held} (hO : OctOk O) (ho : HeldOk h) {k : Nat} (hk : k < 3) : decide (S (writL (O.getD k 0)) ∈ heldS O h) = isHeld h k := by
  rw [Bool.eq_iff_iff, decide_eq_true_eq]
  unfold heldS isHeld
  rw [List.mem_map, List.any_eq_true]
  constructor
  · rintro ⟨q, hq, e⟩
    have q3 := (ho.ok q hq).2.2
    exact ⟨q, hq, by rw [beq_iff_eq]; exact hO.inj (by omega) (by omega) (writL_inj (hO.at (by omega)) (hO.at (by omega)) (S_inj.mp e))⟩
  · rintro ⟨q, hq, e⟩
    rw [beq_iff_eq] at e
    exact ⟨q, hq, by rw [e]⟩
theorem rest_cons {O : List Nat} {A : List (List Nat)} (hA : OrdOk A) {k p : Nat} (hk : k < 3) (hp : p < 4) : rowW (wW O) k ((A.getD k []).drop p) = cwO O k ((A.getD k []).getD p 3) :: rowW (wW O) k ((A.getD k []).drop (p + 1)) := by
  have hl : p < (A.getD k []).length := by rw [perm_len (hA k hk)]; exact hp
  rw [List.drop_eq_getElem_cons hl, getD_at hl]; rfl
theorem state_nodup {O : List Nat} {A : List (List Nat)} {pos : List Nat} (hO : OctOk O) : ((stateD O A pos).map (·.1)).Nodup := by
  have e : (stateD O A pos).map (·.1) = (List.range 3).map fun k => S (figL (O.getD k 0)) := by unfold stateD; rw [List.map_map]; rfl
  rw [e]
  refine map_nodup List.nodup_range fun a ha b hb e => ?_
  have ha := List.mem_range.mp ha
  have hb := List.mem_range.mp hb
  exact hO.inj (by omega) (by omega) (figL_inj (hO.at (by omega)) (hO.at (by omega)) (S_inj.mp e))
theorem state_get {O : List Nat} {A : List (List Nat)} {pos : List Nat} (hO : OctOk O) {k : Nat} (hk : k < 3) : (stateD O A pos).lookup (S (figL (O.getD k 0))) = some (.str (S (rest O A k (pos.getD k 0)))) :=
  lookup_mem (state_nodup hO) (List.mem_map.mpr ⟨k, List.mem_range.mpr hk, rfl⟩)
noncomputable def VT (O : List Nat) (wi : D) (s : OSt) : List (Str × D) := [("octets", .list (nD O)), ("lines", .list (s.kv.map kvS)), ("wishes", wi), ("draw", .int s.draw), ("words", .list (sD (wW O))), ("names", .list (sD (O.map figL))), ("taken", .list (s.tk.map kvS))]
noncomputable def V1 (O : List Nat) (A : List (List Nat)) (wi : D) (t : Nat) (s : OSt) : List (Str × D) := ("free", .list ((freeL A s).map (freeD O A s))) :: ("state", .dict (stateD O A s.pos)) :: ("held", .dict (heldD O s.held)) :: ("turn", .int (t : Int)) :: VT O wi s
theorem get_fig {O : List Nat} (hO : OctOk O) {i : Nat} (hi : i < 6) : (sD (O.map figL))[i]? = some (.str (S (figL (O.getD i 0)))) := by
  have hl := hO.len
  simp [show i < O.length by omega]
theorem get_wW {O : List Nat} (hO : OctOk O) {i : Nat} (hi : i < 6) : (sD (wW O))[i]? = some (.str (S (writL (O.getD i 0)))) := by
  have hl := hO.len
  unfold wW
  simp [show i < O.length by omega]
section
variable {w : World} {base : Heap} {k : Nat}
/-- one asker looked at -/
theorem office_look {L : Addr} {O : List Nat} {A : List (List Nat)} {s : OSt} {t n : Nat} {R : D → Prop} {d1 d2 d3 d4 d5 d6 d7 : D} (G : Gl w base) (hO : OctOk O) (hA : OrdOk A) (hs : OffOk O A t s) (hn : n < 3) :
    Ex P0 w base (k + 3) (callEnvC (fnData P0 34 159) L 159) (bindable (fnData P0 34 159).scope.names) (("k", .int (n : Int)) :: ("mates", .list ((heldS O s.held).map .str)) :: ("state", .dict (stateD O A s.pos)) :: ("words", .list (sD (wW O))) :: ("names", .list (sD (O.map figL))) :: [("held", d1), ("turn", d2), ("octets", d3), ("lines", d4), ("wishes", d5), ("draw", d6), ("taken", d7)]) [("free", .list ((freeN A s n).map (freeD O A s)))] (forOf (forOf (bodyOf 34 159) 3) 4)
      (fun V' O' => Has V' (("mates", .list ((heldS O s.held).map .str)) :: ("state", .dict (stateD O A s.pos)) :: ("words", .list (sD (wW O))) :: ("names", .list (sD (O.map figL))) :: [("held", d1), ("turn", d2), ("octets", d3), ("lines", d4), ("wishes", d5), ("draw", d6), ("taken", d7)]) ∧ Has O' [("free", .list ((freeN A s (n + 1)).map (freeD O A s)))] ∧ O'.lookup ("k" : Str) = none) R := by
  have hz := sizeLine_eq
  have hp := hs.pp n hn
  have hsf := perm_self (hA n hn)
  have c := cmp_notInS (prog := P0) (w := w) (base := base) (k := k + 3) (x := S (writL (O.getD n 0))) (ns := heldS O s.held)
  rw [held_mem hO hs.ho hn] at c
  have sn := freeN_snoc A s n
  cases hh : isHeld s.held n with
  | true =>
    rw [hh] at c sn
    refine Ex.ifF (N1 := fun V' O' => V' = _ ∧ O' = _) (Tr.compare (Ev.sub (a := .list (sD (wW O))) (b := .int (n : Int)) (Ev.name rfl) (Ev.name rfl) (g_listN (get_wW hO (by omega)))) (Ev.name rfl) c) (Ex.nil ⟨rfl, rfl⟩) fun V' O' e => ?_
    obtain ⟨rfl, rfl⟩ := e
    refine Ex.nil ⟨Has.cons rfl (Has.cons rfl (Has.cons rfl (Has.cons rfl (Has.cons rfl (Has.cons rfl (Has.cons rfl (Has.cons rfl (Has.cons rfl (Has.cons rfl (Has.cons rfl Has.nil)))))))))), Has.cons ?_ Has.nil, rfl⟩
    rw [sn]; simp
  | false =>
    rw [hh] at c sn
    have rc := rest_cons (O := O) hA hn (p := s.pos.getD n 0) (by omega)
    have ro := row_ok (l := (A.getD n []).drop (s.pos.getD n 0)) hO hn
    rw [rc] at ro
    have rl : (rowW (wW O) n ((A.getD n []).drop (s.pos.getD n 0 + 1))).length ≤ 3 := by
      unfold rowW
      rw [List.length_map, List.length_drop, perm_len (hA n hn)]; omega
    have df := def_first (k := k + 1) (a := cwO O n (nxt A s.pos n)) (r := rowW (wW O) n ((A.getD n []).drop (s.pos.getD n 0 + 1))) G (fun x hx => by have := ro x hx; exact ⟨this.1, by omega⟩) rl
    have ej : joinL 39 (cwO O n (nxt A s.pos n) :: rowW (wW O) n ((A.getD n []).drop (s.pos.getD n 0 + 1))) = rest O A n (s.pos.getD n 0) := by unfold rest; rw [rc]; rfl
    rw [ej] at df
    have cn := cmp_sne (prog := P0) (w := w) (base := base) (k := k + 3) (x := S (cwO O n (nxt A s.pos n))) (y := S (writL (O.getD n 0)))
    have e3 : cwO O n 3 = writL (O.getD n 0) := by unfold cwO; rw [if_neg (by decide), wW_get hO (by omega)]
    have ec : (!decide (S (cwO O n (nxt A s.pos n)) = S (writL (O.getD n 0)))) = !(nxt A s.pos n == 3) := by
      have h4 : nxt A s.pos n < 4 := by
        by_cases h : nxt A s.pos n = 3
        · omega
        · have := (nxt_lt hA hn hp h).1; omega
      congr 1
      rw [Bool.eq_iff_iff, decide_eq_true_eq, beq_iff_eq, S_inj, ← e3]
      exact ⟨fun z => cwO_inj hO hn h4 (by decide) z, fun z => by rw [z]⟩
    rw [ec] at cn
    refine Ex.ifT (N1 := fun V' O' => Has V' (("mates", .list ((heldS O s.held).map .str)) :: ("state", .dict (stateD O A s.pos)) :: ("words", .list (sD (wW O))) :: ("names", .list (sD (O.map figL))) :: [("held", d1), ("turn", d2), ("octets", d3), ("lines", d4), ("wishes", d5), ("draw", d6), ("taken", d7)]) ∧ Has O' [("free", .list ((freeN A s (n + 1)).map (freeD O A s)))] ∧ O'.lookup ("k" : Str) = none)
      (Tr.compare (Ev.sub (a := .list (sD (wW O))) (b := .int (n : Int)) (Ev.name rfl) (Ev.name rfl) (g_listN (get_wW hO (by omega)))) (Ev.name rfl) c) ?_ fun V' O' e => Ex.nil e
    refine Ex.step (Step.assignTup (d := .tup [.str (S (cwO O n (nxt A s.pos n))), .str (S (rest O A n (s.pos.getD n 0 + 1)))])
      (Ev.callF G.n_law_first (by with_unfolding_all rfl) G.d_law_first.fn (Evs.cons (Ev.sub (a := .dict (stateD O A s.pos)) (b := .str (S (figL (O.getD n 0)))) (Ev.name rfl) (Ev.sub (a := .list (sD (O.map figL))) (b := .int (n : Int)) (Ev.name rfl) (Ev.name rfl) (g_listN (get_fig hO (by omega)))) (g_dict (state_get hO hn))) Evs.nil) df)
      (Tgt.tup2 (.inr rfl) (by decide +kernel) (by decide +kernel) rfl rfl)) ?_
    cases hx : (nxt A s.pos n == 3) with
    | true =>
      rw [hx] at cn sn
      refine Ex.ifF (N1 := fun V' O' => V' = _ ∧ O' = _) (Tr.compare (Ev.name rfl) (Ev.sub (a := .list (sD (wW O))) (b := .int (n : Int)) (Ev.name rfl) (Ev.name rfl) (g_listN (get_wW hO (by omega)))) cn) (Ex.nil ⟨rfl, rfl⟩) fun V' O' e => ?_
      obtain ⟨rfl, rfl⟩ := e
      refine Ex.nil ⟨Has.cons rfl (Has.cons rfl (Has.cons rfl (Has.cons rfl (Has.cons rfl (Has.cons rfl (Has.cons rfl (Has.cons rfl (Has.cons rfl (Has.cons rfl (Has.cons rfl Has.nil)))))))))), Has.cons ?_ Has.nil, rfl⟩
      rw [sn]; simp
    | false =>
      rw [hx] at cn sn
      have n3 : nxt A s.pos n ≠ 3 := fun e => by rw [e] at hx; cases hx
      have nl := (nxt_lt hA hn hp n3).1
      refine Ex.ifT (N1 := fun V' O' => V' = _ ∧ O' = _) (Tr.compare (Ev.name rfl) (Ev.sub (a := .list (sD (wW O))) (b := .int (n : Int)) (Ev.name rfl) (Ev.name rfl) (g_listN (get_wW hO (by omega)))) cn)
        (Ex.step (Step.append (x := "free") (d := freeD O A s n) rfl ?_ (by rw [List.length_map]; unfold freeN; have := List.length_filter_le (fun k => !isHeld s.held k && !(nxt A s.pos k == 3)) (List.range n); rw [List.length_range] at this; omega)) (Ex.nil ⟨rfl, rfl⟩)) fun V' O' e => ?_
      · have ew : cwO O n (nxt A s.pos n) = (wW O).getD (3 + nxt A s.pos n) [] := if_pos nl
        unfold freeD
        rw [← ew]
        exact Ev.tuple (Evs.cons (Ev.name rfl) (Evs.cons (Ev.name rfl) (Evs.cons (Ev.name rfl) Evs.nil))) (by show 3 ≤ sizeLine; omega)
      · obtain ⟨rfl, rfl⟩ := e
        refine Ex.nil ⟨Has.cons rfl (Has.cons rfl (Has.cons rfl (Has.cons rfl (Has.cons rfl (Has.cons rfl (Has.cons rfl (Has.cons rfl (Has.cons rfl (Has.cons rfl (Has.cons rfl Has.nil)))))))))), Has.cons ?_ Has.nil, rfl⟩
        rw [sn]; simp [List.lookup_cons]
end
end Mine
end
section
open PySem PySem.W PyProof.Rows PySem.Builtin.Str PySem.Builtin
namespace Mine
section
variable {w : World} {base : Heap} {k : Nat}
/-- a turn, up to who is free -/
theorem office_pre {L : Addr} {O : List Nat} {A : List (List Nat)} {s : OSt} {t : Nat} {R : D → Prop} {wi : D} (G : Gl w base) (hO : OctOk O) (hA : OrdOk A) (hs : OffOk O A t s) (ht : t < 10) :
    Ex P0 w base (k + 3) (callEnvC (fnData P0 34 159) L 159) (bindable (fnData P0 34 159).scope.names) (("turn", .int (t : Int)) :: VT O wi s) [] ((forOf (bodyOf 34 159) 3).take 5)
      (fun V' O' => Has V' (V1 O A wi t s) ∧ O' = []) R := by
  have hz := sizeLine_eq
  have kl := hs.kl
  have tl := hs.tl
  have hl := held_len hs.ho
  have nd := held_nodup hO hs.ho
  refine Ex.step (Step.assign (d := .dict (stateD O A s.pos)) (Ev.callF G.n_parse_keqv_list (by with_unfolding_all rfl) G.d_parse_keqv_list.fn (Evs.cons (Ev.name rfl) Evs.nil) ?_) (by decide +kernel) rfl) ?_
  · rw [← hs.ke]; exact def_parse (k := k + 2) G hs.ko (by omega)
  refine Ex.step (Step.assign (d := .dict (heldD O s.held)) (Ev.callF G.n_parse_keqv_list (by with_unfolding_all rfl) G.d_parse_keqv_list.fn (Evs.cons (Ev.name rfl) Evs.nil) ?_) (by decide +kernel) rfl) ?_
  · rw [← hs.te]; exact def_parse (k := k + 2) G hs.to (by omega)
  have eo : (heldS O s.held).map D.str = s.held.map fun q : Nat × Nat × Nat => D.str (S (writL (O.getD q.2.2 0))) := by unfold heldS; rw [List.map_map]; rfl
  refine Ex.step (Step.assignComp (out := (heldS O s.held).map .str) [("held", .dict (heldD O s.held))] ⟨rfl, rfl, trivial⟩ (EvIt.dict (Ev.name rfl)) (fun s2 C hk => ?_) (by decide +kernel) rfl (by rw [eo, List.length_map]; omega)) ?_
  · have e : ((heldD O s.held).map fun p => D.str p.1) = s.held.map fun q : Nat × Nat × Nat => D.str (S (figL (O.getD (3 + q.1) 0))) := by unfold heldD; rw [List.map_map]; rfl
    rw [e, eo]
    refine CL.map (α := Nat × Nat × Nat) (fun q => D.str (S (figL (O.getD (3 + q.1) 0)))) (fun q => D.str (S (writL (O.getD q.2.2 0)))) s.held rfl rfl (by decide +kernel) rfl fun q hq => ?_
    obtain ⟨q1, q2, q3⟩ := hs.ho.ok q hq
    have wi := writ_is (hO.at (i := q.2.2) (by omega))
    have wl := writL_len (O.getD q.2.2 0)
    have sp := c_splitA (prog := P0) (w := w) (base := s2.heap) (k := k + 3) (l := valL q.2.1 (writL (O.getD q.2.2 0))) (c := 63) (by decide) (by have := val_len (t := q.2.1) (x := writL (O.getD q.2.2 0)) (by omega); omega)
    rw [val_split q2 wi.2.1] at sp
    refine Ev.sub (a := .list (sD [[], digL q.2.1, [113], writL (O.getD q.2.2 0), [61]])) (b := .int 3) ?_ Ev.int (g_listN (i := 3) rfl)
    refine Ev.meth (id := "str.split") (a := .str (S (valL q.2.1 (writL (O.getD q.2.2 0))))) (ds := [.str (S [63])]) ?_ (Evs.cons (Ev.strS (by decide +kernel)) Evs.nil) (strne "str" (by decide)) PySem.F.plainAttrs_str PySem.F.slot_str_split PySem.F.type_str_split sp
    exact Ev.sub (a := .dict (heldD O s.held)) (b := .str (S (figL (O.getD (3 + q.1) 0)))) (Ev.name rfl) (Ev.name rfl) (g_dict (lookup_mem nd (List.mem_map.mpr ⟨q, hq, rfl⟩)))
  refine Ex.step (Step.newList (by decide +kernel) rfl) ?_
  refine Ex.forN (ds := rD 3) (fun _ => True) (fun _ => ("mates", .list ((heldS O s.held).map .str)) :: ("state", .dict (stateD O A s.pos)) :: ("words", .list (sD (wW O))) :: ("names", .list (sD (O.map figL))) :: ("held", .dict (heldD O s.held)) :: ("turn", .int (t : Int)) :: ("octets", .list (nD O)) :: ("lines", .list (s.kv.map kvS)) :: ("wishes", wi) :: ("draw", .int s.draw) :: ("taken", .list (s.tk.map kvS)) :: [])
    (fun n => [("free", .list ((freeN A s n).map (freeD O A s)))]) (range3 (m := 3) G.b_range (by with_unfolding_all rfl) (by decide)) trivial ?_ (Has.cons rfl Has.nil) rfl (by decide +kernel) (fun j d hd _ => ?_) fun _ => ?_
  · exact Has.cons rfl (Has.cons rfl (Has.cons rfl (Has.cons rfl (Has.cons rfl (Has.cons rfl (Has.cons rfl (Has.cons rfl (Has.cons rfl (Has.cons rfl (Has.cons rfl Has.nil))))))))))
  · obtain ⟨c, hc, rfl⟩ := map_getElem? hd
    obtain ⟨hj, rfl⟩ : j < 3 ∧ c = j := by
      rw [List.getElem?_eq_some_iff] at hc
      obtain ⟨h1, h2⟩ := hc
      rw [List.getElem_range] at h2
      exact ⟨by simpa using h1, h2.symm⟩
    exact Ex.post (office_look G hO hA hs hj) (fun V' O' h => ⟨trivial, h⟩) fun d z => z
  · refine Ex.freeze (O' := []) (x := "free") rfl (fun y e l => by simp at l) G.sys (Ex.nil ⟨?_, rfl⟩)
    exact Has.cons rfl (Has.cons rfl (Has.cons rfl (Has.cons rfl (Has.cons rfl (Has.cons rfl (Has.cons rfl (Has.cons rfl (Has.cons rfl (Has.cons rfl (Has.cons rfl Has.nil))))))))))
end
end Mine
end
section
open PySem PySem.W PyProof.Rows PySem.Builtin.Str PySem.Builtin
namespace Mine
/-- the word that the line of the asked one, a, has in the place of x -/
noncomputable def cwP (O : List Nat) (a x : Nat) : List Nat := if x < 3 then (wW O).getD x [] else (wW O).getD (3 + a) []
theorem cwP_is {O : List Nat} (hO : OctOk O) {a x : Nat} (ha : a < 3) : cwP O a x = writL (O.getD (if x < 3 then x else 3 + a) 0) := by
  unfold cwP
  split
  · rw [wW_get hO (by omega)]
  · rw [wW_get hO (by omega)]
theorem cwP_inj {O : List Nat} (hO : OctOk O) {a x y : Nat} (ha : a < 3) (hx : x < 4) (hy : y < 4) (h : cwP O a x = cwP O a y) : x = y := by
  rw [cwP_is hO ha, cwP_is hO ha] at h
  have hi : ∀ z, z < 4 → (if z < 3 then z else 3 + a) < 6 := fun z hz => by split <;> omega
  have := hO.inj (hi x hx) (hi y hy) (writL_inj (hO.at (hi x hx)) (hO.at (hi y hy)) h)
  split at this <;> split at this <;> omega
noncomputable def wishD (O : List Nat) (P : List (List Nat)) : D := .list ((List.range 3).map fun a => .list (sD ((P.getD a []).map (cwP O a))))
theorem dig_str : ∀ t : Fin 10, Str.ofString (toString (t.val : Int)) = S (digL t.val) := by decide +kernel
section
variable {prog : Program} {w : World} {base : Heap} {k : Nat}
theorem c_indexWs {ws : List (List Nat)} {x : List Nat} {j : Nat} (hj : ws[j]? = some x) (hn : ws.Nodup) (hl : ws.length ≤ 1000) : OpL prog w base k (fun vs => call (.builtin "list.index") vs) [.list (sD ws), .str (S x)] (.int (j : Nat)) := by
  have hlt := (List.getElem?_eq_some_iff.mp hj).1
  have h := c_indexS (prog := prog) (w := w) (base := base) (k := k) (ns := ws.map S) (x := S x) (j := j) (by rw [List.getElem?_map, hj]; rfl) (fun m hm e => by
    rw [List.getElem?_map] at e
    have hm' : m < ws.length := by omega
    rw [List.getElem?_eq_getElem hm'] at e
    have e := S_inj.mp (Option.some.inj e)
    rw [List.getElem?_eq_getElem hlt] at hj
    have := (List.getElem_inj hn).mp (e.trans (Option.some.inj hj).symm)
    omega) (by omega)
  rw [List.map_map] at h
  exact h
theorem c_strN {t : Nat} (ht : t < 10) : OpL prog w base k (fun vs => call (.type "str") vs) [.int (t : Int)] (.str (S (digL t))) := by
  have := c_str (prog := prog) (w := w) (base := base) (k := k) (i := (t : Int)) (by
    have : ∀ t : Fin 10, ((t.val : Int)).natAbs.log2 < 1920 := by decide +kernel
    exact this ⟨t, ht⟩)
  rwa [dig_str ⟨t, ht⟩] at this
theorem op_subN {a b : Nat} : Op2 prog w base k (binaryOp .Sub) (.int ((a + b : Nat) : Int)) (.int (a : Int)) (.int (b : Int)) := by
  have := op_sub (prog := prog) (w := w) (base := base) (k := k) (a := ((a + b : Nat) : Int)) (b := (a : Int))
  rwa [show ((a + b : Nat) : Int) - (a : Int) = (b : Int) by omega] at this
end
theorem wW_nodup {O : List Nat} (hO : OctOk O) : (wW O).Nodup := map_nodup hO.nodup fun a ha b hb e => writL_inj (hO.lt a ha) (hO.lt b hb) e
theorem wish_nodup {O : List Nat} (hO : OctOk O) {a : Nat} (ha : a < 3) {l : List Nat} (h : l.Perm [0, 1, 2, 3]) : (l.map (cwP O a)).Nodup :=
  map_nodup (perm_nodup h) fun x hx y hy e => cwP_inj hO ha ((perm_mem h).mp hx) ((perm_mem h).mp hy) e
theorem wish_at {O : List Nat} {a x : Nat} {l : List Nat} (h : l.Perm [0, 1, 2, 3]) (hx : x < 4) : (l.map (cwP O a))[l.idxOf x]? = some (cwP O a x) := by
  have hlt := List.idxOf_lt_length_of_mem ((perm_mem h).mpr hx)
  rw [List.getElem?_map, List.getElem?_eq_getElem hlt, List.getElem_idxOf]; rfl
theorem bars_lt {h : Held} (ho : HeldOk h) {a : Nat} : ∀ b ∈ barsL h a, b < 4 := fun b hb => by
  unfold barsL at hb
  rcases List.mem_cons.mp hb with rfl | hb
  · decide
  · obtain ⟨q, hq, rfl⟩ := List.mem_map.mp hb
    have := (ho.ok q (List.mem_filter.mp hq).1).2.2
    omega
section
variable {w : World} {base : Heap} {k : Nat}
/-- nobody is free -/
theorem office_stop {L : Addr} {O : List Nat} {A : List (List Nat)} {s : OSt} {t : Nat} {N : List (Str × D) → List (Str × D) → Prop} {wi : D} (hf : freeL A s = []) :
    Ex P0 w base (k + 3) (callEnvC (fnData P0 34 159) L 159) (bindable (fnData P0 34 159).scope.names) (V1 O A wi t s) [] ((forOf (bodyOf 34 159) 3).drop 5) N (fun d => d = .tup [.dict (stateD O A s.pos), .dict (heldD O s.held), .int (t : Int)]) := by
  have al := cmp_eqL (prog := P0) (w := w) (base := base) (k := k + 3) (alike_nil (n := 0) ((freeL A s).map (freeD O A s))) (by decide)
  have e : ((freeL A s).map (freeD O A s)).isEmpty = true := by rw [hf]; rfl
  rw [e] at al
  exact Ex.ifT (N1 := fun _ _ => False) (Tr.compare (Ev.name rfl) (Ev.list Evs.nil (by show 0 ≤ sizeLine; decide)) al) (Ex.ret (d := .tup [.dict (stateD O A s.pos), .dict (heldD O s.held), .int (t : Int)]) (Ev.tuple (Evs.cons (Ev.name rfl) (Evs.cons (Ev.name rfl) (Evs.cons (Ev.name rfl) Evs.nil))) (by show 3 ≤ sizeLine; decide)) rfl) fun _ _ h => h.elim
end
end Mine
end
section
open PySem PySem.W PyProof.Rows PySem.Builtin.Str PySem.Builtin
namespace Mine
theorem wishes_at {O : List Nat} {P : List (List Nat)} {a : Nat} (ha : a < 3) : ((List.range 3).map fun a => D.list (sD ((P.getD a []).map (cwP O a))))[a]? = some (.list (sD ((P.getD a []).map (cwP O a)))) := by
  rw [List.getElem?_map, List.getElem?_range ha]; rfl
section
variable {prog : Program} {w : World} {base : Heap} {k : Nat} {env : Env} {B : Str → Bool} {V V' O O' : List (Str × D)} {N N1 : List (Str × D) → List (Str × D) → Prop} {R : D → Prop}
theorem Ex.ifB {t : Expr} {body orelse rest : List Stmt} {p : Pos} {b : Bool} (h : Tr prog w base k env V t b) (h1 : b = true → Ex prog w base k env B V O body N1 R) (h2 : b = false → Ex prog w base k env B V O orelse N1 R) (hr : ∀ V' O', N1 V' O' → Ex prog w base k env B V' O' rest N R) :
    Ex prog w base k env B V O (.If t body orelse p :: rest) N R := by
  cases b with
  | true => exact Ex.ifT h (h1 rfl) hr
  | false => exact Ex.ifF h (h2 rfl) hr
end
section
variable {w : World} {base : Heap} {k : Nat}
/-- somebody asks -/
theorem office_ask {L : Addr} {O : List Nat} {A P : List (List Nat)} {s : OSt} {t : Nat} {R : D → Prop} (G : Gl w base) (hO : OctOk O) (hA : OrdOk A) (hP : OrdOk P) (hs : OffOk O A t s) (ht : t < 10) (hf : freeL A s ≠ []) :
    Ex P0 w base (k + 3) (callEnvC (fnData P0 34 159) L 159) (bindable (fnData P0 34 159).scope.names) (V1 O A (wishD O P) t s) [] ((forOf (bodyOf 34 159) 3).drop 5)
      (fun V' O' => Has V' (VT O (wishD O P) (ask O A P t s (whoN A s))) ∧ Has O' [] ∧ O'.lookup ("turn" : Str) = none) R := by
  have hz := sizeLine_eq
  have kl := hs.kl
  have tl := hs.tl
  have hl := held_len hs.ho
  have al := cmp_eqL (prog := P0) (w := w) (base := base) (k := k + 3) (alike_nil (n := 0) ((freeL A s).map (freeD O A s))) (by decide)
  have e : ((freeL A s).map (freeD O A s)).isEmpty = false := by
    cases z : freeL A s with
    | nil => exact absurd z hf
    | cons a r => rfl
  rw [e] at al
  refine Ex.ifF (N1 := fun V' O' => V' = _ ∧ O' = _) (Tr.compare (Ev.name rfl) (Ev.list Evs.nil (by show 0 ≤ sizeLine; decide)) al) (Ex.nil ⟨rfl, rfl⟩) fun V' O' hh => ?_
  obtain ⟨rfl, rfl⟩ := hh
  have hw := who_mem hf
  obtain ⟨hk3, hnh, hn3⟩ := free_is hw
  obtain ⟨hn, hp⟩ := nxt_lt hA hk3 (hs.pp _ hk3) hn3
  have fl : 0 < (freeL A s).length := List.length_pos_iff.mpr hf
  have fl3 : (freeL A s).length ≤ 3 := by
    have := List.length_filter_le (fun k => !isHeld s.held k && !(nxt A s.pos k == 3)) (List.range 3)
    simpa [freeL] using this
  have i0 := Int.emod_nonneg s.draw (b := ((freeL A s).length : Int)) (by omega)
  have i1 := Int.emod_lt_of_pos s.draw (b := ((freeL A s).length : Int)) (by omega)
  have im : s.draw % ((freeL A s).length : Int) = (((s.draw % ((freeL A s).length : Int)).toNat : Nat) : Int) := by omega
  have cl := c_len (prog := P0) (w := w) (base := base) (k := k + 3) (ds := (freeL A s).map (freeD O A s)) (by rw [List.length_map]; omega)
  rw [List.length_map] at cl
  have wm : ((freeL A s).map (freeD O A s))[(s.draw % ((freeL A s).length : Int)).toNat]? = some (freeD O A s (whoN A s)) := by
    have hlt : (s.draw % ((freeL A s).length : Int)).toNat < (freeL A s).length := by omega
    rw [List.getElem?_map, List.getElem?_eq_getElem hlt]
    unfold whoN
    rw [getD_at hlt]; rfl
  have md := modN (prog := P0) (w := w) (base := base) (k := k + 3) (a := s.draw) (b := (freeL A s).length) (by omega)
  rw [im] at md
  generalize hwk : whoN A s = q at hw hk3 hnh hn3 hn hp wm
  generalize hna : nxt A s.pos q = a at hn hn3
  have nd := held_nodup hO hs.ho
  have wl := writL_len (O.getD q 0)
  have rlen := rest_len hO hA (p := s.pos.getD q 0 + 1) hk3
  refine Ex.step (Step.assignTup (d := freeD O A s q) (Ev.sub (a := .list ((freeL A s).map (freeD O A s))) (b := .int (((s.draw % ((freeL A s).length : Int)).toNat : Nat) : Int)) (Ev.name rfl)
    (Ev.binop (a := .int s.draw) (b := .int ((freeL A s).length : Int)) (Ev.name rfl) (Ev.callB G.b_len (by with_unfolding_all rfl) (Evs.cons (Ev.name rfl) Evs.nil) cl) md) (g_listN wm))
    (Tgt.tup3 (.inr rfl) (by decide +kernel) (by decide +kernel) (by decide +kernel) rfl rfl rfl)) ?_
  refine Ex.step (Step.assign (d := .int (s.draw / 3)) (Ev.binop (a := .int s.draw) (b := .int ((3 : Nat) : Int)) (Ev.name rfl) Ev.int (divN (b := 3) (by decide) (by decide))) (by decide +kernel) rfl) ?_
  refine Ex.step (Step.assign (d := .list ((s.kv ++ [(figL (O.getD q 0), rest O A q (s.pos.getD q 0 + 1))]).map kvS)) ?_ (by decide +kernel) rfl) ?_
  · rw [List.map_append]
    refine Ev.binop (a := .list (s.kv.map kvS)) (Ev.name rfl) (Ev.list (ds := [(figL (O.getD q 0), rest O A q (s.pos.getD q 0 + 1))].map kvS) (Evs.cons ?_ Evs.nil) (by show 1 ≤ sizeLine; omega)) (op_addLs (by simp; omega))
    have eL : figL (O.getD q 0) ++ 61 :: rest O A q (s.pos.getD q 0 + 1) = (figL (O.getD q 0) ++ [61]) ++ rest O A q (s.pos.getD q 0 + 1) := by simp
    show Ev _ _ _ _ _ _ _ (.str (S (figL (O.getD q 0) ++ 61 :: rest O A q (s.pos.getD q 0 + 1))))
    rw [eL]
    exact Ev.binop (a := .str (S (figL (O.getD q 0) ++ [61]))) (Ev.binop (a := .str (S (figL (O.getD q 0)))) (b := .str (S [61])) (Ev.sub (a := .list (sD (O.map figL))) (b := .int (q : Int)) (Ev.name rfl) (Ev.name rfl) (g_listN (get_fig hO (by omega)))) (Ev.strS (by decide +kernel)) (op_catS (by simp [fig_len]))) (Ev.name rfl) (op_catS (by rw [List.length_append, fig_len]; simp only [List.length_cons, List.length_nil]; omega))
  refine Ex.step (Step.assign (d := .int ((3 + a : Nat) : Int)) ?_ (by decide +kernel) rfl) ?_
  · refine Ev.meth (id := "list.index") (a := .list (sD (wW O))) (ds := [.str (S ((wW O).getD (3 + nxt A s.pos q) []))]) (Ev.name rfl) (Evs.cons (Ev.name rfl) Evs.nil) (strne "list" (by decide)) PySem.F.plainAttrs_list PySem.F.slot_list_index PySem.F.type_list_index (c_indexWs ?_ (wW_nodup hO) ?_)
    · rw [hna]
      have h6 : 3 + a < (wW O).length := by unfold wW; rw [List.length_map, hO.len]; omega
      simp [h6]
    · unfold wW; rw [List.length_map, hO.len]; decide
  refine Ex.step (Step.assign (d := .list (sD ((P.getD a []).map (cwP O a)))) (Ev.sub (a := wishD O P) (b := .int (a : Int)) (Ev.name rfl) (Ev.binop (a := .int ((3 + a : Nat) : Int)) (b := .int ((3 : Nat) : Int)) (Ev.name rfl) Ev.int op_subN) (g_listN (wishes_at hn))) (by decide +kernel) rfl) ?_
  refine Ex.step (Step.assign (d := .list (sD ((barsL s.held a).map (cwP O a)))) ?_ (by decide +kernel) rfl) ?_
  · have eb : sD ((barsL s.held a).map (cwP O a)) = [D.str (S (cwP O a 3))] ++ (s.held.filter fun q => q.1 == a).map fun q => D.str (S (writL (O.getD q.2.2 0))) := by
      unfold barsL
      show D.str (S (cwP O a 3)) :: List.map _ (List.map _ (List.map _ _)) = _
      rw [List.map_map, List.map_map]
      refine congrArg (_ :: ·) (List.map_congr_left fun q hq => ?_)
      have q3 := (hs.ho.ok q (List.mem_filter.mp hq).1).2.2
      show D.str (S (cwP O a q.2.2)) = _
      rw [cwP_is hO hn, if_pos q3]
    rw [eb]
    refine Ev.binop (a := .list [D.str (S (cwP O a 3))]) (b := .list ((s.held.filter fun q => q.1 == a).map fun q => D.str (S (writL (O.getD q.2.2 0))))) (Ev.list (Evs.cons ?_ Evs.nil) (by show 1 ≤ sizeLine; omega)) ?_ (op_addLs ?_)
    · have e3 : cwP O a 3 = writL (O.getD (3 + a) 0) := by rw [cwP_is hO hn]; rfl
      rw [e3]
      exact Ev.sub (a := .list (sD (wW O))) (b := .int ((3 + a : Nat) : Int)) (Ev.name rfl) (Ev.name rfl) (g_listN (get_wW hO (by omega)))
    · refine Ev.comp [("held", .dict (heldD O s.held)), ("names", .list (sD (O.map figL))), ("asked", .int ((3 + a : Nat) : Int))] ⟨rfl, rfl, rfl, rfl, rfl, rfl, trivial⟩ (EvIt.dict (Ev.name rfl)) (fun s2 C hk => ?_) (by rw [List.length_map]; have := List.length_filter_le (fun q : Nat × Nat × Nat => q.1 == a) s.held; omega)
      have e : ((heldD O s.held).map fun p => D.str p.1) = s.held.map fun q : Nat × Nat × Nat => D.str (S (figL (O.getD (3 + q.1) 0))) := by unfold heldD; rw [List.map_map]; rfl
      rw [e]
      refine CL.filt (α := Nat × Nat × Nat) (fun q => D.str (S (figL (O.getD (3 + q.1) 0)))) (fun q => D.str (S (writL (O.getD q.2.2 0)))) (fun q => q.1 == a) s.held rfl rfl ?hb rfl ?hc ?he
      case hb => decide +kernel
      case hc =>
        intro q hq
        obtain ⟨q1, q2, q3⟩ := hs.ho.ok q hq
        refine Tr.of (Tr.compare (a := .str (S (figL (O.getD (3 + q.1) 0)))) (b := .str (S (figL (O.getD (3 + a) 0)))) (Ev.name rfl) (Ev.sub (a := .list (sD (O.map figL))) (b := .int ((3 + a : Nat) : Int)) (Ev.name rfl) (Ev.name rfl) (g_listN (get_fig hO (by omega)))) cmp_eqS) ?_
        rw [Bool.eq_iff_iff, decide_eq_true_eq, beq_iff_eq]
        constructor
        · intro hh
          have := hO.inj (by omega) (by omega) (figL_inj (hO.at (by omega)) (hO.at (by omega)) hh)
          omega
        · intro hh; rw [hh]
      case he =>
        intro q hq _
        obtain ⟨q1, q2, q3⟩ := hs.ho.ok q hq
        have wi := writ_is (hO.at (i := q.2.2) (by omega))
        have wl := writL_len (O.getD q.2.2 0)
        have sp := c_splitA (prog := P0) (w := w) (base := s2.heap) (k := k + 3) (l := valL q.2.1 (writL (O.getD q.2.2 0))) (c := 63) (by decide) (by have := val_len (t := q.2.1) (x := writL (O.getD q.2.2 0)) (by omega); omega)
        rw [val_split q2 wi.2.1] at sp
        refine Ev.sub (a := .list (sD [[], digL q.2.1, [113], writL (O.getD q.2.2 0), [61]])) (b := .int 3) ?_ Ev.int (g_listN (i := 3) rfl)
        refine Ev.meth (id := "str.split") (a := .str (S (valL q.2.1 (writL (O.getD q.2.2 0))))) (ds := [.str (S [63])]) ?_ (Evs.cons (Ev.strS (by decide +kernel)) Evs.nil) (strne "str" (by decide)) PySem.F.plainAttrs_str PySem.F.slot_str_split PySem.F.type_str_split sp
        exact Ev.sub (a := .dict (heldD O s.held)) (b := .str (S (figL (O.getD (3 + q.1) 0)))) (Ev.name rfl) (Ev.name rfl) (g_dict (lookup_mem nd (List.mem_map.mpr ⟨q, hq, rfl⟩)))
    · rw [List.length_map]; have := List.length_filter_le (fun q : Nat × Nat × Nat => q.1 == a) s.held; show 1 + _ ≤ 5000; omega
  have bl : (barsL s.held a).length ≤ 4 := by
    unfold barsL
    rw [List.length_cons, List.length_map]
    have := List.length_filter_le (fun q : Nat × Nat × Nat => q.1 == a) s.held
    omega
  have alB := cmp_eqL (prog := P0) (w := w) (base := base) (k := k + 3) (alike_nil (n := 0) (((barsL s.held a).filter fun b => decide (rkP P a b < rkP P a q)).map fun b => D.str (S (cwP O a b)))) (by decide)
  have eB : (((barsL s.held a).filter fun b => decide (rkP P a b < rkP P a q)).map fun b => D.str (S (cwP O a b))).isEmpty = accB P s.held a q := by unfold accB; rw [List.isEmpty_map]
  rw [eB] at alB
  have lz : (((barsL s.held a).filter fun b => decide (rkP P a b < rkP P a q)).map fun b => D.str (S (cwP O a b))).length ≤ sizeLine := by
    rw [List.length_map]
    have := List.length_filter_le (fun b => decide (rkP P a b < rkP P a q)) (barsL s.held a)
    omega
  refine Ex.ifB (N1 := fun V' O' => Has V' (VT O (wishD O P) (ask O A P t s q)) ∧ Has O' [] ∧ O'.lookup ("turn" : Str) = none) (Tr.compare (Ev.comp [("wish", .list (sD ((P.getD a []).map (cwP O a)))), ("words", .list (sD (wW O))), ("who", .int (q : Int))] ⟨rfl, rfl, rfl, rfl, rfl, rfl, trivial⟩ (EvIt.list (Ev.name rfl)) (fun s2 C hk => ?_) lz) (Ev.list Evs.nil (by show 0 ≤ sizeLine; omega)) alB) (fun hb => ?_) (fun hb => ?_) fun V' O' h => Ex.nil h
  · have e : sD ((barsL s.held a).map (cwP O a)) = (barsL s.held a).map fun b => D.str (S (cwP O a b)) := by
      show List.map _ (List.map _ _) = _
      rw [List.map_map]; rfl
    rw [e]
    refine CL.filt (α := Nat) (fun b => D.str (S (cwP O a b))) (fun b => D.str (S (cwP O a b))) (fun b => decide (rkP P a b < rkP P a q)) (barsL s.held a) rfl rfl ?hb rfl ?hc ?he
    case hb => decide +kernel
    case hc =>
      intro b hb
      have b4 := bars_lt hs.ho b hb
      have pl : ((P.getD a []).map (cwP O a)).length ≤ 1000 := by rw [List.length_map, perm_len (hP a hn)]; decide
      refine Tr.compare (a := .int (rkP P a b : Nat)) (b := .int (rkP P a q : Nat)) ?_ ?_ cmp_ltN
      · exact Ev.meth (id := "list.index") (a := .list (sD ((P.getD a []).map (cwP O a)))) (ds := [.str (S (cwP O a b))]) (Ev.name rfl) (Evs.cons (Ev.name rfl) Evs.nil) (strne "list" (by decide)) PySem.F.plainAttrs_list PySem.F.slot_list_index PySem.F.type_list_index (c_indexWs (wish_at (hP a hn) b4) (wish_nodup hO hn (hP a hn)) pl)
      · have eq : cwP O a q = writL (O.getD q 0) := by rw [cwP_is hO hn, if_pos hk3]
        refine Ev.meth (id := "list.index") (a := .list (sD ((P.getD a []).map (cwP O a)))) (ds := [.str (S (cwP O a q))]) (Ev.name rfl) (Evs.cons ?_ Evs.nil) (strne "list" (by decide)) PySem.F.plainAttrs_list PySem.F.slot_list_index PySem.F.type_list_index (c_indexWs (wish_at (hP a hn) (by omega)) (wish_nodup hO hn (hP a hn)) pl)
        rw [eq]
        exact Ev.sub (a := .list (sD (wW O))) (b := .int (q : Int)) (Ev.name rfl) (Ev.name rfl) (g_listN (get_wW hO (by omega)))
    case he => exact fun b _ _ => Ev.name rfl
  · have et : (ask O A P t s q).tk = s.tk ++ [heldL O (a, t, q)] := by
      show (if accB P s.held (nxt A s.pos q) q then _ else _) = _
      rw [hna, hb]; rfl
    have eline : (heldL O (a, t, q)).1 ++ 61 :: (heldL O (a, t, q)).2 = figL (O.getD (3 + a) 0) ++ encL (digL t) (bsL [O.getD q 0]) := by
      rw [encL_one (hO.at (by omega))]
      show figL (O.getD (3 + a) 0) ++ 61 :: valL t (writL (O.getD q 0)) = _
      rw [valL_eq]
    have lline : (figL (O.getD (3 + a) 0) ++ encL (digL t) (bsL [O.getD q 0])).length ≤ 40 := by
      rw [encL_one (hO.at (by omega))]
      simp only [fig_len, List.length_append, List.length_cons, List.length_nil, digL]
      omega
    refine Ex.step (Step.assign (d := kvS (heldL O (a, t, q))) ?_ (by decide +kernel) rfl) ?_
    · show Ev _ _ _ _ _ _ _ (.str (S ((heldL O (a, t, q)).1 ++ 61 :: (heldL O (a, t, q)).2)))
      rw [eline]
      refine Ev.binop (a := .str (S (figL (O.getD (3 + a) 0)))) (b := .str (S (encL (digL t) (bsL [O.getD q 0])))) (Ev.sub (a := .list (sD (O.map figL))) (b := .int ((3 + a : Nat) : Int)) (Ev.name rfl) (Ev.name rfl) (g_listN (get_fig hO (by omega)))) ?_ (op_catS (by rw [List.length_append] at lline; omega))
      refine Ev.callF G.n_header_encode (by with_unfolding_all rfl) G.d_header_encode.fn (Evs.cons (Ev.callT G.b_bytes (by with_unfolding_all rfl) (Evs.cons (Ev.list (ds := nD [O.getD q 0]) (Evs.cons ?_ Evs.nil) (by show 1 ≤ sizeLine; omega)) Evs.nil) (c_bytesN (ns := [O.getD q 0]) (fun n hn => by rw [List.mem_singleton.mp hn]; exact hO.at (by omega)) (by simp))) (Evs.cons (Ev.callT G.b_str (by with_unfolding_all rfl) (Evs.cons (Ev.name rfl) Evs.nil) (c_strN ht)) Evs.nil)) (def_encode2 (k := k + 2) G (by simp) (by simp [digL]))
      exact Ev.sub (a := .list (nD O)) (b := .int (q : Int)) (Ev.name rfl) (Ev.name rfl) (g_listN (get_nD (by rw [hO.len]; omega)))
    refine Ex.ifF (N1 := fun V' O' => V' = _ ∧ O' = _) (Tr.of (Tr.compare (a := kvS (heldL O (a, t, q))) (b := .str (S (((((figL (O.getD (3 + a) 0)) ++ [61, 63]) ++ digL t) ++ [63, 113, 63]) ++ writL (O.getD q 0) ++ [63, 61]))) (Ev.name rfl)
      (Ev.binop (a := .str (S (((((figL (O.getD (3 + a) 0)) ++ [61, 63]) ++ digL t) ++ [63, 113, 63]) ++ writL (O.getD q 0)))) (b := .str (S [63, 61]))
        (Ev.binop (a := .str (S ((((figL (O.getD (3 + a) 0)) ++ [61, 63]) ++ digL t) ++ [63, 113, 63]))) (b := .str (S (writL (O.getD q 0))))
          (Ev.binop (a := .str (S (((figL (O.getD (3 + a) 0)) ++ [61, 63]) ++ digL t))) (b := .str (S [63, 113, 63]))
            (Ev.binop (a := .str (S ((figL (O.getD (3 + a) 0)) ++ [61, 63]))) (b := .str (S (digL t)))
              (Ev.binop (a := .str (S (figL (O.getD (3 + a) 0)))) (b := .str (S [61, 63])) (Ev.sub (a := .list (sD (O.map figL))) (b := .int ((3 + a : Nat) : Int)) (Ev.name rfl) (Ev.name rfl) (g_listN (get_fig hO (by omega)))) (Ev.strS (by decide +kernel)) (op_catS ?h1))
              (Ev.callT G.b_str (by with_unfolding_all rfl) (Evs.cons (Ev.name rfl) Evs.nil) (c_strN ht)) (op_catS ?h2))
            (Ev.strS (by decide +kernel)) (op_catS ?h3))
          (Ev.sub (a := .list (sD (wW O))) (b := .int (q : Int)) (Ev.name rfl) (Ev.name rfl) (g_listN (get_wW hO (by omega)))) (op_catS ?h4))
        (Ev.strS (by decide +kernel)) (op_catS ?h5)) cmp_sne) ?h6) (Ex.nil ⟨rfl, rfl⟩) fun V' O' hh => ?_
    case h1 => simp only [fig_len, List.length_append, List.length_cons, List.length_nil, digL]; omega
    case h2 => simp only [fig_len, List.length_append, List.length_cons, List.length_nil, digL]; omega
    case h3 => simp only [fig_len, List.length_append, List.length_cons, List.length_nil, digL]; omega
    case h4 => simp only [fig_len, List.length_append, List.length_cons, List.length_nil, digL]; omega
    case h5 => simp only [fig_len, List.length_append, List.length_cons, List.length_nil, digL]; omega
    case h6 =>
      rw [Bool.not_eq_false', decide_eq_true_eq, eline, encL_one (hO.at (by omega))]
      simp
    obtain ⟨rfl, rfl⟩ := hh
    refine Ex.step (Step.assign (d := .list ((s.tk ++ [heldL O (a, t, q)]).map kvS)) ?_ (by decide +kernel) rfl) (Ex.nil ⟨?_, Has.nil, rfl⟩)
    · rw [List.map_append (l₁ := s.tk)]
      refine Ev.binop (a := .list (s.tk.map kvS)) (b := .list ([heldL O (a, t, q)].map kvS)) (Ev.name rfl) (Ev.list (ds := [heldL O (a, t, q)].map kvS) (Evs.cons (Ev.name rfl) Evs.nil) (by show 1 ≤ sizeLine; omega)) (op_addLs ?_)
      rw [List.length_map]; show _ + 1 ≤ 5000; omega
    · unfold VT
      rw [et]
      exact Has.cons rfl (Has.cons rfl (Has.cons rfl (Has.cons rfl (Has.cons rfl (Has.cons rfl (Has.cons rfl Has.nil))))))
  · have et : (ask O A P t s q).tk = s.tk := by
      show (if accB P s.held (nxt A s.pos q) q then _ else _) = _
      rw [hna, hb]; rfl
    refine Ex.nil ⟨?_, Has.nil, rfl⟩
    unfold VT
    rw [et]
    exact Has.cons rfl (Has.cons rfl (Has.cons rfl (Has.cons rfl (Has.cons rfl (Has.cons rfl (Has.cons rfl Has.nil))))))
end
end Mine
end
section
open PySem PySem.W PyProof.Rows PySem.Builtin.Str PySem.Builtin
namespace Mine
section
variable {w : World} {base : Heap} {k : Nat}
theorem def_office {O : List Nat} {A P : List (List Nat)} {s0 : OSt} {n : Nat} (G : Gl w base) (hO : OctOk O) (hA : OrdOk A) (hP : OrdOk P) (h0 : OffOk O A 0 s0) (ht : s0.tk = []) (hn : n ≤ 9) (stop : freeL A (offSt O A P s0 n) = []) (go : ∀ m, m < n → freeL A (offSt O A P s0 m) ≠ []) :
    OpL P0 w base (k + 4) (fun vs => call (.ref 159) vs) [.list (nD O), .list (s0.kv.map kvS), wishD O P, .int s0.draw] (.tup [.dict (stateD O A (offSt O A P s0 n).pos), .dict (heldD O (offSt O A P s0 n).held), .int (n : Int)]) := by
  refine OpL.def (ps := ["octets", "lines", "wishes", "draw"]) G.d_law_office (by with_unfolding_all rfl) (fun vals h => ?_) (by decide +kernel) (by decide) rfl fun base' L hb' => ?_
  · obtain ⟨v, u, x, y, rfl⟩ := len4 h
    with_unfolding_all rfl
  · have G := G.kp hb'
    have hz := sizeLine_eq
    have hl := hO.len
    refine Ex.step (Step.assign (d := .list (sD (wW O))) (Ev.comp [] trivial (EvIt.list (Ev.name rfl)) (fun s C hk => ?_) (by unfold wW; rw [List.length_map, List.length_map]; omega)) (by decide +kernel) rfl) ?_
    · have G := G.kp hk
      unfold wW
      rw [show sD (O.map writL) = O.map fun c => D.str (S (writL c)) by show List.map _ (List.map _ _) = _; rw [List.map_map]; rfl]
      exact CL.map (α := Nat) (fun c => .int (c : Int)) (fun c => D.str (S (writL c))) O rfl rfl (by decide +kernel) rfl fun c hc => Ev.callF G.n_law_written (by with_unfolding_all rfl) G.d_law_written.fn (Evs.cons (Ev.name rfl) Evs.nil) (def_written (k := k + 1) G (hO.lt c hc))
    refine Ex.step (Step.assign (d := .list (sD (O.map figL))) (Ev.comp [] trivial (EvIt.list (Ev.name rfl)) (fun s C hk => ?_) (by rw [List.length_map, List.length_map]; omega)) (by decide +kernel) rfl) ?_
    · have G := G.kp hk
      rw [show sD (O.map figL) = O.map fun c => D.str (S (figL c)) by show List.map _ (List.map _ _) = _; rw [List.map_map]; rfl]
      exact CL.map (α := Nat) (fun c => .int (c : Int)) (fun c => D.str (S (figL c))) O rfl rfl (by decide +kernel) rfl fun c hc => Ev.callF G.n_law_figures (by with_unfolding_all rfl) G.d_law_figures.fn (Evs.cons (Ev.name rfl) Evs.nil) (def_figures (k := k + 2) G (hO.lt c hc))
    refine Ex.step (Step.newList (by decide +kernel) rfl) ?_
    refine Ex.freeze (O' := []) (x := "taken") rfl (fun y e l => by simp at l) G.sys ?_
    refine Ex.forN (ds := rD 10) (fun i => i ≤ n) (fun i => VT O (wishD O P) (offSt O A P s0 i)) (fun _ => []) (range3 (m := 10) G.b_range (by with_unfolding_all rfl) (by decide)) (Nat.zero_le n) ?_ Has.nil rfl (by decide +kernel) (fun t d hd hP' => ?_) fun hP' => ?_
    · show Has _ (VT O (wishD O P) s0)
      unfold VT
      rw [ht]
      exact Has.cons rfl (Has.cons rfl (Has.cons rfl (Has.cons rfl (Has.cons rfl (Has.cons rfl (Has.cons rfl Has.nil))))))
    · obtain ⟨c, hc, rfl⟩ := map_getElem? hd
      obtain ⟨hj, rfl⟩ : t < 10 ∧ c = t := by
        rw [List.getElem?_eq_some_iff] at hc
        obtain ⟨h1, h2⟩ := hc
        rw [List.getElem_range] at h2
        exact ⟨by simpa using h1, h2.symm⟩
      have ok := off_ok (P := P) hO hA h0 c (by omega) fun m hm => go m (by omega)
      have key : Ex P0 w base' (k + 3) (callEnvC (fnData P0 34 159) L 159) (bindable (fnData P0 34 159).scope.names) (("turn", .int (c : Int)) :: VT O (wishD O P) (offSt O A P s0 c)) [] ((forOf (bodyOf 34 159) 3).take 5 ++ (forOf (bodyOf 34 159) 3).drop 5)
          (fun V' O' => c + 1 ≤ n ∧ Has V' (VT O (wishD O P) (offSt O A P s0 (c + 1))) ∧ Has O' [] ∧ O'.lookup ("turn" : Str) = none) (fun d => d = .tup [.dict (stateD O A (offSt O A P s0 n).pos), .dict (heldD O (offSt O A P s0 n).held), .int (n : Int)]) := by
        refine Ex.append (office_pre G hO hA ok hj) fun V' O' h => ?_
        obtain ⟨h1, rfl⟩ := h
        refine Ex.weak ?_ h1 fun _ _ l => l
        by_cases hc' : c = n
        · subst hc'
          exact office_stop stop
        · exact Ex.post (office_ask G hO hA hP ok hj (go c (by omega))) (fun V' O' h => ⟨by omega, h⟩) fun d z => z
      rw [List.take_append_drop] at key
      exact key
    · exfalso
      have : (rD 10).length = 10 := by simp
      rw [this] at hP'
      omega
end
end Mine
end
section
open PySem PySem.W PyProof.Rows PySem.Builtin.Str PySem.Builtin
namespace Mine
/-! the plain law: deferred acceptance -/
theorem mem_putH {h : Held} {n q : Nat × Nat × Nat} : q ∈ putH h n ↔ q = n ∨ (q ∈ h ∧ q.1 ≠ n.1) := by
  unfold putH
  split
  · rename_i hz
    obtain ⟨r, hr, e⟩ := List.any_eq_true.mp hz
    rw [beq_iff_eq] at e
    rw [List.mem_map]
    constructor
    · rintro ⟨p, hp, rfl⟩
      split
      · exact .inl rfl
      · rename_i hne; exact .inr ⟨hp, hne⟩
    · rintro (rfl | ⟨hq, hne⟩)
      · exact ⟨r, hr, if_pos e⟩
      · exact ⟨q, hq, if_neg hne⟩
  · rename_i hz
    rw [List.mem_append, List.mem_singleton]
    constructor
    · rintro (hq | rfl)
      · exact .inr ⟨hq, fun e => hz (List.any_eq_true.mpr ⟨q, hq, by rw [beq_iff_eq]; exact e⟩)⟩
      · exact .inl rfl
    · rintro (rfl | ⟨hq, _⟩)
      · exact .inr rfl
      · exact .inl hq
theorem mem_bars {h : Held} {j b : Nat} : b ∈ barsL h j ↔ b = 3 ∨ ∃ q ∈ h, q.1 = j ∧ q.2.2 = b := by
  unfold barsL
  rw [List.mem_cons, List.mem_map]
  constructor
  · rintro (e | ⟨q, hq, e⟩)
    · exact .inl e
    · obtain ⟨hq, z⟩ := List.mem_filter.mp hq
      exact .inr ⟨q, hq, beq_iff_eq.mp z, e⟩
  · rintro (e | ⟨q, hq, z, e⟩)
    · exact .inl e
    · exact .inr ⟨q, List.mem_filter.mpr ⟨hq, by rw [beq_iff_eq]; exact z⟩, e⟩
theorem accB_true {P : List (List Nat)} {h : Held} {a k : Nat} (e : accB P h a k = true) {b : Nat} (hb : b ∈ barsL h a) : ¬ rkP P a b < rkP P a k := fun z => by
  unfold accB at e
  rw [List.isEmpty_iff, List.filter_eq_nil_iff] at e
  exact e b hb (decide_eq_true z)
theorem accB_false {P : List (List Nat)} {h : Held} {a k : Nat} (e : accB P h a k = false) : ∃ b ∈ barsL h a, rkP P a b < rkP P a k := by
  unfold accB at e
  rw [List.isEmpty_eq_false_iff] at e
  obtain ⟨b, hb⟩ := List.exists_mem_of_ne_nil _ e
  obtain ⟨h1, h2⟩ := List.mem_filter.mp hb
  exact ⟨b, h1, of_decide_eq_true h2⟩
theorem rk_inj {P : List (List Nat)} (hP : OrdOk P) {a x y : Nat} (ha : a < 3) (hx : x < 4) (hy : y < 4) (e : rkP P a x = rkP P a y) : x = y := by
  unfold rkP at e
  have h1 := List.idxOf_lt_length_of_mem ((perm_mem (hP a ha)).mpr hx)
  have h2 := List.idxOf_lt_length_of_mem ((perm_mem (hP a ha)).mpr hy)
  have e1 := List.getElem_idxOf h1
  have e2 := List.getElem_idxOf h2
  rw [← e1, ← e2]
  congr 1
theorem rk_lt {P : List (List Nat)} (hP : OrdOk P) {a x : Nat} (ha : a < 3) (hx : x < 4) : rkP P a x < 4 := by
  have h1 := List.idxOf_lt_length_of_mem ((perm_mem (hP a ha)).mpr hx)
  rwa [perm_len (hP a ha)] at h1
/-- a pairing in which nobody would rather be alone and no two would rather have each other -/
structure Stab (A P : List (List Nat)) (f g : Nat → Nat) : Prop where
  fl : ∀ i, i < 3 → f i < 4
  gl : ∀ j, j < 3 → g j < 4
  fg : ∀ i, i < 3 → f i < 3 → g (f i) = i
  gf : ∀ j, j < 3 → g j < 3 → f (g j) = j
  fi : ∀ i, i < 3 → f i < 3 → rkP A i (f i) < rkP A i 3
  gi : ∀ j, j < 3 → g j < 3 → rkP P j (g j) < rkP P j 3
  nb : ∀ i j, i < 3 → j < 3 → rkP A i j < rkP A i (f i) → rkP P j i < rkP P j (g j) → False
theorem Stab.swap {A P : List (List Nat)} {f g : Nat → Nat} (h : Stab A P f g) : Stab P A g f :=
  ⟨h.gl, h.fl, h.gf, h.fg, h.gi, h.fi, fun j i hj hi a b => h.nb i j hi hj b a⟩
noncomputable def NotH (h : Held) (j i : Nat) : Prop := ∀ q ∈ h, ¬ (q.1 = j ∧ q.2.2 = i)
structure Inv (A P : List (List Nat)) (t : Nat) (s : OSt) : Prop where
  ho : ∀ q ∈ s.held, q.1 < 3 ∧ q.2.2 < 3
  ke : ∀ q ∈ s.held, ∀ r ∈ s.held, q.1 = r.1 → q = r
  pl : s.pos.length = 3
  pp : ∀ k, k < 3 → s.pos.getD k 0 ≤ rkP A k 3
  last : ∀ q ∈ s.held, rkP A q.2.2 q.1 + 1 = s.pos.getD q.2.2 0 ∧ rkP P q.1 q.2.2 < rkP P q.1 3
  ref : ∀ i j, i < 3 → j < 3 → rkP A i j < s.pos.getD i 0 → NotH s.held j i → ∃ b ∈ barsL s.held j, rkP P j b < rkP P j i
  opt : ∀ f g, Stab A P f g → ∀ i j, i < 3 → j < 3 → rkP A i j < s.pos.getD i 0 → NotH s.held j i → f i ≠ j
  sum : s.pos.getD 0 0 + s.pos.getD 1 0 + s.pos.getD 2 0 = t
theorem inv_0 {A P : List (List Nat)} {s : OSt} (hp : s.pos = [0, 0, 0]) (hh : s.held = []) : Inv A P 0 s := by
  have z : ∀ k, k < 3 → s.pos.getD k 0 = 0 := fun k hk => by
    rw [hp]
    have : ∀ k : Fin 3, ([0, 0, 0] : List Nat).getD k.val 0 = 0 := by decide
    exact this ⟨k, hk⟩
  refine ⟨fun q hq => ?_, fun q hq => ?_, by rw [hp]; rfl, fun k hk => by rw [z k hk]; exact Nat.zero_le _, fun q hq => ?_, fun i j hi _ h => ?_, fun f g _ i j hi _ h => ?_, by rw [hp]; rfl⟩
  · rw [hh] at hq; cases hq
  · rw [hh] at hq; cases hq
  · rw [hh] at hq; cases hq
  · rw [z i hi] at h; omega
  · rw [z i hi] at h; omega
theorem nxt_rk {A : List (List Nat)} {pos : List Nat} {k : Nat} (hA : OrdOk A) (hk : k < 3) (hp : pos.getD k 0 ≤ rkP A k 3) : rkP A k (nxt A pos k) = pos.getD k 0 := by
  have hs := perm_self (hA k hk)
  have hlt : pos.getD k 0 < (A.getD k []).length := by
    have : rkP A k 3 = (A.getD k []).idxOf 3 := rfl
    rw [perm_len (hA k hk)]; omega
  exact idxOf_getD (perm_nodup (hA k hk)) hlt
/-- one that stands ahead of whom k holds (or of k's own place) cannot be k's in a stable pairing -/
theorem opt_le {A P : List (List Nat)} {t : Nat} {s : OSt} {f g : Nat → Nat} (I : Inv A P t s) (hS : Stab A P f g) {i p : Nat} (hi : i < 3) (hp : p ≤ s.pos.getD i 0) (hn : ∀ j, j < 3 → rkP A i j < p → NotH s.held j i) : p ≤ rkP A i (f i) := by
  rcases Nat.lt_or_ge (rkP A i (f i)) p with z | z
  · exfalso
    have f4 := hS.fl i hi
    by_cases h3 : f i = 3
    · have := I.pp i hi
      rw [h3] at z; omega
    · exact I.opt f g hS i (f i) hi (by omega) (by omega) (hn _ (by omega) z) rfl
  · exact z
theorem inv_ask {O : List Nat} {A P : List (List Nat)} {t k : Nat} {s : OSt} (hA : OrdOk A) (hP : OrdOk P) (I : Inv A P t s) (hk : k ∈ freeL A s) : Inv A P (t + 1) (ask O A P t s k) := by
  obtain ⟨hk3, hnh, hn3⟩ := free_is hk
  have hp := I.pp k hk3
  obtain ⟨ha, hpos⟩ := nxt_lt hA hk3 hp hn3
  have hra := nxt_rk hA hk3 hp
  have nh : ∀ j, NotH s.held j k := fun j q hq hz => by
    have : isHeld s.held k = true := List.any_eq_true.mpr ⟨q, hq, by rw [beq_iff_eq]; exact hz.2⟩
    rw [hnh] at this; cases this
  have ep : ∀ i, i < 3 → (ask O A P t s k).pos.getD i 0 = if i = k then s.pos.getD k 0 + 1 else s.pos.getD i 0 := fun i _ => by
    show (s.pos.set k _).getD i 0 = _
    exact set_getD (by rw [I.pl]; exact hk3)
  have epl : (ask O A P t s k).pos.length = 3 := by show (s.pos.set k _).length = 3; rw [List.length_set]; exact I.pl
  have epp : ∀ i, i < 3 → (ask O A P t s k).pos.getD i 0 ≤ rkP A i 3 := fun i hi => by
    rw [ep i hi]
    split
    · rename_i e; rw [e]; have : rkP A k 3 = (A.getD k []).idxOf 3 := rfl; omega
    · exact I.pp i hi
  have esum : (ask O A P t s k).pos.getD 0 0 + (ask O A P t s k).pos.getD 1 0 + (ask O A P t s k).pos.getD 2 0 = t + 1 := by
    rw [ep 0 (by decide), ep 1 (by decide), ep 2 (by decide)]
    have := I.sum
    rcases (show k = 0 ∨ k = 1 ∨ k = 2 by omega) with rfl | rfl | rfl <;> simp <;> simp at this <;> omega
  -- who has been asked now: as before, and a by k
  have asked : ∀ i j, i < 3 → j < 3 → rkP A i j < (ask O A P t s k).pos.getD i 0 → rkP A i j < s.pos.getD i 0 ∨ (i = k ∧ j = nxt A s.pos k) := fun i j hi hj h => by
    rw [ep i hi] at h
    split at h
    · rename_i e
      subst e
      rcases Nat.lt_or_ge (rkP A i j) (s.pos.getD i 0) with z | z
      · exact .inl z
      · exact .inr ⟨rfl, rk_inj hA hi (by omega) (by omega) (by omega)⟩
    · exact .inl h
  generalize hna : nxt A s.pos k = a at ha hn3 hra asked
  cases hacc : accB P s.held a k with
  | false =>
    have eh : (ask O A P t s k).held = s.held := by
      show (if accB P s.held (nxt A s.pos k) k then _ else _) = _
      rw [hna, hacc]; rfl
    obtain ⟨b0, hb0, hbr⟩ := accB_false hacc
    refine ⟨fun q hq => I.ho q (by rwa [eh] at hq), fun q hq r hr => I.ke q (by rwa [eh] at hq) r (by rwa [eh] at hr), epl, epp, fun q hq => ?_, fun i j hi hj h hn => ?_, fun f g hS i j hi hj h hn => ?_, esum⟩
    · rw [eh] at hq
      have hqk : q.2.2 ≠ k := fun e => nh q.1 q hq ⟨rfl, e⟩
      rw [ep _ (I.ho q hq).2, if_neg hqk]
      exact I.last q hq
    · rw [eh] at hn ⊢
      rcases asked i j hi hj h with z | ⟨rfl, rfl⟩
      · exact I.ref i j hi hj z hn
      · exact ⟨b0, hb0, hbr⟩
    · rw [eh] at hn
      rcases asked i j hi hj h with z | ⟨rfl, rfl⟩
      · exact I.opt f g hS i j hi hj z hn
      · intro hf
        have hg : g j = i := by have := hS.fg i hi (by omega); rwa [hf] at this
        rcases mem_bars.mp hb0 with rfl | ⟨q, hq, hq1, rfl⟩
        · have := hS.gi j hj (by omega)
          rw [hg] at this; omega
        · obtain ⟨q1, q2⟩ := I.ho q hq
          have hl := (I.last q hq).1
          rw [hq1] at hl
          have hne : q.2.2 ≠ i := fun e => nh q.1 q hq ⟨rfl, e⟩
          have le := opt_le I hS (i := q.2.2) (p := rkP A q.2.2 j) q2 (by omega) fun x hx hlt r hr hz => by
            have h1 := (I.last r hr).1
            rw [hz.1, hz.2] at h1
            omega
          have hfj : f q.2.2 ≠ j := fun e => hne (by have := hS.fg q.2.2 q2 (by omega); rw [e, hg] at this; exact this.symm)
          have lt : rkP A q.2.2 j < rkP A q.2.2 (f q.2.2) := by
            rcases Nat.lt_or_ge (rkP A q.2.2 j) (rkP A q.2.2 (f q.2.2)) with z | z
            · exact z
            · exact absurd (rk_inj hA q2 (hS.fl _ q2) (by omega) (by omega)) hfj
          exact hS.nb q.2.2 j q2 hj lt (by rw [hg]; exact hbr)
  | true =>
    have eh : (ask O A P t s k).held = putH s.held (a, t, k) := by
      show (if accB P s.held (nxt A s.pos k) k then _ else _) = _
      rw [hna, hacc]; rfl
    have nb := fun b hb => accB_true (b := b) hacc hb
    have k3 : rkP P a k < rkP P a 3 := by
      have h1 := nb 3 (mem_bars.mpr (.inl rfl))
      rcases Nat.lt_or_ge (rkP P a k) (rkP P a 3) with z | z
      · exact z
      · have := rk_inj hP ha (x := k) (y := 3) (by omega) (by omega) (by omega)
        omega
    refine ⟨fun q hq => ?_, fun q hq r hr e => ?_, epl, epp, fun q hq => ?_, fun i j hi hj h hn => ?_, fun f g hS i j hi hj h hn => ?_, esum⟩
    · rw [eh] at hq
      rcases mem_putH.mp hq with rfl | ⟨z, _⟩
      · exact ⟨ha, hk3⟩
      · exact I.ho q z
    · rw [eh] at hq hr
      rcases mem_putH.mp hq with rfl | ⟨z, n1⟩ <;> rcases mem_putH.mp hr with rfl | ⟨z', n2⟩
      · rfl
      · exact absurd e.symm n2
      · exact absurd e n1
      · exact I.ke q z r z' e
    · rw [eh] at hq
      rcases mem_putH.mp hq with rfl | ⟨z, n1⟩
      · rw [ep k hk3, if_pos rfl]
        exact ⟨by show rkP A k a + 1 = _; rw [hra], k3⟩
      · have hqk : q.2.2 ≠ k := fun e => nh q.1 q z ⟨rfl, e⟩
        rw [ep _ (I.ho q z).2, if_neg hqk]
        exact I.last q z
    · rw [eh] at hn ⊢
      by_cases hja : j = a
      · subst hja
        have hik : i ≠ k := fun e => hn (j, t, k) (mem_putH.mpr (.inl rfl)) ⟨rfl, e.symm⟩
        have hz : rkP A i j < s.pos.getD i 0 := (asked i j hi hj h).elim id fun z => absurd z.1 hik
        have kin : k ∈ barsL (putH s.held (j, t, k)) j := mem_bars.mpr (.inr ⟨_, mem_putH.mpr (.inl rfl), rfl, rfl⟩)
        by_cases hold : NotH s.held j i
        · obtain ⟨b, hb, hlt⟩ := I.ref i j hi hj hz hold
          have := nb b hb
          exact ⟨k, kin, by omega⟩
        · have : ∃ q ∈ s.held, q.1 = j ∧ q.2.2 = i := by
            rcases Classical.em (∃ q ∈ s.held, q.1 = j ∧ q.2.2 = i) with z | z
            · exact z
            · exact absurd (fun q hq hz => z ⟨q, hq, hz⟩) hold
          have h1 := nb i (mem_bars.mpr (.inr this))
          refine ⟨k, kin, ?_⟩
          rcases Nat.lt_or_ge (rkP P j k) (rkP P j i) with z | z
          · exact z
          · exact absurd (rk_inj hP hj (x := i) (y := k) (by omega) (by omega) (by omega)) hik
      · have hz : rkP A i j < s.pos.getD i 0 := (asked i j hi hj h).elim id fun z => absurd z.2 hja
        have hold : NotH s.held j i := fun q hq e => hn q (mem_putH.mpr (.inr ⟨hq, fun z => hja (e.1.symm.trans z)⟩)) e
        obtain ⟨b, hb, hlt⟩ := I.ref i j hi hj hz hold
        refine ⟨b, ?_, hlt⟩
        rcases mem_bars.mp hb with e | ⟨q, hq, e1, e2⟩
        · exact mem_bars.mpr (.inl e)
        · exact mem_bars.mpr (.inr ⟨q, mem_putH.mpr (.inr ⟨hq, fun z => hja (e1.symm.trans z)⟩), e1, e2⟩)
    · rw [eh] at hn
      by_cases hja : j = a
      · subst hja
        have hik : i ≠ k := fun e => hn (j, t, k) (mem_putH.mpr (.inl rfl)) ⟨rfl, e.symm⟩
        have hz : rkP A i j < s.pos.getD i 0 := (asked i j hi hj h).elim id fun z => absurd z.1 hik
        by_cases hold : NotH s.held j i
        · exact I.opt f g hS i j hi hj hz hold
        · have hq : ∃ q ∈ s.held, q.1 = j ∧ q.2.2 = i := by
            rcases Classical.em (∃ q ∈ s.held, q.1 = j ∧ q.2.2 = i) with z | z
            · exact z
            · exact absurd (fun q hq hz => z ⟨q, hq, hz⟩) hold
          have h1 := nb i (mem_bars.mpr (.inr hq))
          have lt : rkP P j k < rkP P j i := by
            rcases Nat.lt_or_ge (rkP P j k) (rkP P j i) with z | z
            · exact z
            · exact absurd (rk_inj hP hj (x := i) (y := k) (by omega) (by omega) (by omega)) hik
          intro hf
          have hg : g j = i := by have := hS.fg i hi (by omega); rwa [hf] at this
          have le := opt_le I hS (i := k) (p := rkP A k j) hk3 (by omega) fun x _ _ => nh x
          have hfj : f k ≠ j := fun e => hik (by have := hS.fg k hk3 (by omega); rw [e, hg] at this; exact this)
          have lt2 : rkP A k j < rkP A k (f k) := by
            rcases Nat.lt_or_ge (rkP A k j) (rkP A k (f k)) with z | z
            · exact z
            · exact absurd (rk_inj hA hk3 (hS.fl _ hk3) (by omega) (by omega)) hfj
          exact hS.nb k j hk3 hj lt2 (by rw [hg]; exact lt)
      · have hz : rkP A i j < s.pos.getD i 0 := (asked i j hi hj h).elim id fun z => absurd z.2 hja
        exact I.opt f g hS i j hi hj hz fun q hq e => hn q (mem_putH.mpr (.inr ⟨hq, fun z => hja (e.1.symm.trans z)⟩)) e
end Mine
end
section
open PySem PySem.W PyProof.Rows PySem.Builtin.Str PySem.Builtin
namespace Mine
noncomputable def mates3 (h : Held) : List Nat := (List.range 3).map (mateOf h)
theorem mates_at {h : Held} {j : Nat} (hj : j < 3) : (mates3 h).getD j 0 = mateOf h j := by unfold mates3; simp [hj]
theorem mates_len (h : Held) : (mates3 h).length = 3 := by simp [mates3]
theorem mate_some {h : Held} (ke : ∀ q ∈ h, ∀ r ∈ h, q.1 = r.1 → q = r) (ho : ∀ q ∈ h, q.1 < 3 ∧ q.2.2 < 3) {j i : Nat} (hi : i < 3) : mateOf h j = i ↔ ∃ q ∈ h, q.1 = j ∧ q.2.2 = i := by
  unfold mateOf
  cases e : h.find? fun q => q.1 == j with
  | none =>
    constructor
    · intro z
      have : (3 : Nat) = i := z
      omega
    · rintro ⟨q, hq, e1, _⟩
      have := List.find?_eq_none.mp e q hq
      rw [beq_iff_eq] at this
      exact absurd e1 this
  | some q =>
    have hq := List.mem_of_find?_eq_some e
    have h1 := List.find?_some e
    rw [beq_iff_eq] at h1
    constructor
    · intro z; exact ⟨q, hq, h1, z⟩
    · rintro ⟨r, hr, e1, e2⟩
      have := ke q hq r hr (h1.trans e1.symm)
      rw [this]; exact e2
theorem mate_le {h : Held} (ho : ∀ q ∈ h, q.1 < 3 ∧ q.2.2 < 3) (j : Nat) : mateOf h j < 4 := by
  unfold mateOf
  cases e : h.find? fun q => q.1 == j with
  | none => exact (by decide : 3 < 4)
  | some q => have := (ho q (List.mem_of_find?_eq_some e)).2; show q.2.2 < 4; omega
theorem back_some {l : List Nat} (hl : l.length = 3) {k j : Nat} (h : backN l k = j) (hj : j < 3) : l.getD j 0 = k := by
  unfold backN at h
  split at h
  · rename_i hm
    subst h
    have hlt := List.idxOf_lt_length_of_mem hm
    rw [getD_at hlt, List.getElem_idxOf]
  · omega
theorem back_le {l : List Nat} (hl : l.length = 3) (k : Nat) : backN l k < 4 := by
  unfold backN
  split
  · rename_i hm
    have hlt := List.idxOf_lt_length_of_mem hm
    omega
  · decide
theorem back_mem {l : List Nat} (hl : l.length = 3) {k j : Nat} (hj : j < 3) (h : l.getD j 0 = k) : backN l k < 3 := by
  have hlt : j < l.length := by omega
  have hm : k ∈ l := by rw [← h, getD_at hlt]; exact List.getElem_mem hlt
  unfold backN
  rw [if_pos hm]
  have := List.idxOf_lt_length_of_mem hm
  omega
structure Done (A P : List (List Nat)) (s : OSt) : Prop where
  stab : Stab A P (backN (mates3 s.held)) (mateOf s.held)
  best : ∀ f g, Stab A P f g → ∀ i, i < 3 → rkP A i (backN (mates3 s.held) i) ≤ rkP A i (f i)
  pos : ∀ i, i < 3 → s.pos.getD i 0 = rkP A i (backN (mates3 s.held) i) + if backN (mates3 s.held) i < 3 then 1 else 0
theorem done {A P : List (List Nat)} {t : Nat} {s : OSt} (hA : OrdOk A) (hP : OrdOk P) (I : Inv A P t s) (hf : freeL A s = []) : Done A P s := by
  have ml := mates_len s.held
  have ms := fun {j i : Nat} (hi : i < 3) => mate_some (h := s.held) I.ke I.ho (j := j) hi
  -- whom an asker got
  have gf : ∀ j, j < 3 → mateOf s.held j < 3 → backN (mates3 s.held) (mateOf s.held j) = j := fun j hj hm => by
    have hb := back_mem ml hj (mates_at hj)
    have h2 := back_some ml rfl hb
    rw [mates_at hb] at h2
    obtain ⟨q, hq, e1, e2⟩ := (ms hm).mp h2
    obtain ⟨r, hr, e3, e4⟩ := (ms hm).mp rfl
    have h3 := (I.last q hq).1
    have h4 := (I.last r hr).1
    rw [e1, e2] at h3
    rw [e3, e4] at h4
    exact rk_inj hA hm (by omega) (by omega) (by omega)
  have fg : ∀ i, i < 3 → backN (mates3 s.held) i < 3 → mateOf s.held (backN (mates3 s.held) i) = i := fun i hi hb => by
    have h2 := back_some ml rfl hb
    rwa [mates_at hb] at h2
  have fh : ∀ i, i < 3 → backN (mates3 s.held) i < 3 → rkP A i (backN (mates3 s.held) i) + 1 = s.pos.getD i 0 := fun i hi hb => by
    obtain ⟨q, hq, e1, e2⟩ := (ms hi).mp (fg i hi hb)
    have := (I.last q hq).1
    rwa [e1, e2] at this
  have hb3 : ∀ i, ¬ backN (mates3 s.held) i < 3 → backN (mates3 s.held) i = 3 := fun i h => by have := back_le ml i; omega
  have fn : ∀ i, i < 3 → ¬ backN (mates3 s.held) i < 3 → s.pos.getD i 0 = rkP A i 3 := fun i hi hb => by
    have nh : isHeld s.held i = false := by
      cases e : isHeld s.held i with
      | false => rfl
      | true =>
        obtain ⟨q, hq, e1⟩ := List.any_eq_true.mp e
        rw [beq_iff_eq] at e1
        have := back_mem ml (I.ho q hq).1 ((mates_at (I.ho q hq).1).trans ((ms hi).mpr ⟨q, hq, rfl, e1⟩))
        exact absurd this hb
    have : ¬ i ∈ freeL A s := by rw [hf]; exact List.not_mem_nil
    have n3 : nxt A s.pos i = 3 := by
      rcases Classical.em (nxt A s.pos i = 3) with z | z
      · exact z
      · exfalso
        apply this
        unfold freeL
        rw [List.mem_filter]
        exact ⟨List.mem_range.mpr hi, by rw [nh]; simpa using z⟩
    rw [← nxt_rk hA hi (I.pp i hi), n3]
  have hle : ∀ i, i < 3 → rkP A i (backN (mates3 s.held) i) ≤ s.pos.getD i 0 := fun i hi => by
    by_cases hb : backN (mates3 s.held) i < 3
    · have := fh i hi hb; omega
    · rw [fn i hi hb, hb3 i hb]; exact Nat.le_refl _
  have hnh : ∀ i j, i < 3 → j < 3 → rkP A i j < rkP A i (backN (mates3 s.held) i) → NotH s.held j i := fun i j hi hj hlt q hq e => by
    have h1 := (ms hi).mpr ⟨q, hq, e⟩
    have h2 := gf j hj (by omega)
    rw [h1] at h2
    rw [h2] at hlt
    omega
  refine ⟨⟨fun i _ => back_le ml i, fun j _ => mate_le I.ho j, fg, gf, fun i hi hb => ?_, fun j hj hm => ?_, fun i j hi hj h1 h2 => ?_⟩, fun f g hS i hi => opt_le I hS hi (hle i hi) fun j hj hlt => hnh i j hi hj hlt, fun i hi => ?_⟩
  · have := fh i hi hb
    have := I.pp i hi
    omega
  · obtain ⟨q, hq, e1, e2⟩ := (ms hm).mp rfl
    have := (I.last q hq).2
    rwa [e1, e2] at this
  · obtain ⟨b, hb, hlt⟩ := I.ref i j hi hj (by have := hle i hi; omega) (hnh i j hi hj h1)
    rcases mem_bars.mp hb with rfl | ⟨q, hq, e1, e2⟩
    · by_cases hm : mateOf s.held j < 3
      · obtain ⟨q, hq, e1, e2⟩ := (ms hm).mp rfl
        have := (I.last q hq).2
        rw [e1, e2] at this
        omega
      · have : mateOf s.held j = 3 := by have := mate_le I.ho j; omega
        rw [this] at h2; omega
    · have h3 := (ms (by rw [← e2]; exact (I.ho q hq).2)).mpr ⟨q, hq, e1, e2⟩
      rw [h3] at h2
      omega
  · by_cases hb : backN (mates3 s.held) i < 3
    · rw [if_pos hb]; exact (fh i hi hb).symm
    · rw [if_neg hb, fn i hi hb, hb3 i hb]; rfl
/-! an office comes to its end in ten turns -/
theorem off_inv {O : List Nat} {A P : List (List Nat)} {s0 : OSt} (hA : OrdOk A) (hP : OrdOk P) (hp : s0.pos = [0, 0, 0]) (hh : s0.held = []) : ∀ t, (∀ m, m < t → freeL A (offSt O A P s0 m) ≠ []) → Inv A P t (offSt O A P s0 t)
  | 0, _ => inv_0 hp hh
  | t + 1, h => inv_ask hA hP (off_inv hA hP hp hh t fun m hm => h m (by omega)) (who_mem (h t (by omega)))
theorem first_stop {p : Nat → Prop} [DecidablePred p] : ∀ n, (∃ m, m ≤ n ∧ p m) → ∃ m, m ≤ n ∧ p m ∧ ∀ i, i < m → ¬ p i
  | 0, ⟨m, hm, h⟩ => ⟨m, hm, h, fun i hi => absurd hi (by omega)⟩
  | n + 1, ⟨m, hm, h⟩ => by
    by_cases hz : ∃ m, m ≤ n ∧ p m
    · obtain ⟨m, a, b, c⟩ := first_stop n hz
      exact ⟨m, by omega, b, c⟩
    · exact ⟨m, hm, h, fun i hi hp => hz ⟨i, by omega, hp⟩⟩
theorem off_end (O : List Nat) {A P : List (List Nat)} {s0 : OSt} (hA : OrdOk A) (hP : OrdOk P) (hp : s0.pos = [0, 0, 0]) (hh : s0.held = []) : ∃ n, n ≤ 9 ∧ freeL A (offSt O A P s0 n) = [] ∧ ∀ m, m < n → freeL A (offSt O A P s0 m) ≠ [] := by
  have hex : ∃ m, m ≤ 9 ∧ freeL A (offSt O A P s0 m) = [] := by
    rcases Classical.em (∃ m, m ≤ 9 ∧ freeL A (offSt O A P s0 m) = []) with z | z
    · exact z
    · exfalso
      have I := off_inv (O := O) hA hP hp hh 10 fun m hm e => z ⟨m, by omega, e⟩
      have h0 := I.pp 0 (by decide)
      have h1 := I.pp 1 (by decide)
      have h2 := I.pp 2 (by decide)
      have r0 := rk_lt hA (a := 0) (x := 3) (by decide) (by decide)
      have r1 := rk_lt hA (a := 1) (x := 3) (by decide) (by decide)
      have r2 := rk_lt hA (a := 2) (x := 3) (by decide) (by decide)
      have := I.sum
      omega
  exact first_stop 9 hex
end Mine
end
section
open PySem PySem.W PyProof.Rows PySem.Builtin.Str PySem.Builtin
namespace Mine
/-! all stable pairings, one by one -/
noncomputable def PickOk (R : List (List Nat)) (n : Nat) (p : List Nat) : Prop := p.length = n ∧ ∀ i, i < n → (p.getD i 0 ∈ fitL R i ∨ p.getD i 0 = 3) ∧ (p.getD i 0 = 3 ∨ ∀ j, j < i → p.getD j 0 ≠ p.getD i 0)
theorem getD_app {q : List Nat} {j i : Nat} : (q ++ [j]).getD i 0 = if i < q.length then q.getD i 0 else if i = q.length then j else 0 := by
  split
  · rename_i h
    simp [List.getElem?_append_left h]
  · split
    · rename_i h; subst h; simp
    · rename_i h1 h2
      simp [show q.length + 1 ≤ i by omega]
theorem mem_getD {q : List Nat} {x : Nat} : x ∈ q ↔ ∃ i, i < q.length ∧ q.getD i 0 = x := by
  rw [List.mem_iff_getElem]
  constructor
  · rintro ⟨i, h, e⟩; exact ⟨i, h, by rw [getD_at h]; exact e⟩
  · rintro ⟨i, h, e⟩; exact ⟨i, h, by rwa [getD_at h] at e⟩
theorem mem_picks (R : List (List Nat)) : ∀ (n : Nat) (p : List Nat), p ∈ picksL R n ↔ PickOk R n p
  | 0, p => by
    unfold PickOk
    simp only [picksL, List.mem_singleton]
    constructor
    · intro e; subst e; exact ⟨rfl, fun i hi => absurd hi (by omega)⟩
    · intro h; exact List.eq_nil_of_length_eq_zero h.1
  | n + 1, p => by
    simp only [picksL, List.mem_flatMap, List.mem_map, List.mem_filter, List.mem_append, List.mem_singleton, Bool.or_eq_true, decide_eq_true_eq, Bool.not_eq_true', decide_eq_false_iff_not]
    constructor
    · rintro ⟨q, hq, j, ⟨hj, hjq⟩, rfl⟩
      obtain ⟨hl, hi⟩ := (mem_picks R n q).mp hq
      refine ⟨by simp [hl], fun i hi' => ?_⟩
      rw [getD_app, hl]
      by_cases hin : i < n
      · rw [if_pos hin]
        obtain ⟨a, b⟩ := hi i hin
        refine ⟨a, b.imp id fun z m hm => ?_⟩
        rw [getD_app, hl, if_pos (by omega)]
        exact z m hm
      · have : i = n := by omega
        subst this
        rw [if_neg hin, if_pos rfl]
        refine ⟨hj, hjq.imp id fun z m hm e => z (mem_getD.mpr ⟨m, by omega, ?_⟩)⟩
        rwa [getD_app, hl, if_pos hm] at e
    · rintro ⟨hl, hi⟩
      rcases List.eq_nil_or_concat p with rfl | ⟨q, j, rfl⟩
      · simp at hl
      · rw [List.concat_eq_append] at hl hi ⊢
        have ql : q.length = n := by simpa using hl
        have gq : ∀ m, m < n → (q ++ [j]).getD m 0 = q.getD m 0 := fun m hm => by rw [getD_app, ql, if_pos hm]
        have gn : (q ++ [j]).getD n 0 = j := by rw [getD_app, ql, if_neg (Nat.lt_irrefl n), if_pos rfl]
        refine ⟨q, (mem_picks R n q).mpr ⟨ql, fun i h => ?_⟩, j, ⟨?_, ?_⟩, rfl⟩
        · have := hi i (by omega)
          rw [gq i h] at this
          refine ⟨this.1, this.2.imp id fun z m hm => ?_⟩
          have := z m hm
          rwa [gq m (by omega)] at this
        · have := (hi n (by omega)).1
          rwa [gn] at this
        · have := (hi n (by omega)).2
          rw [gn] at this
          refine this.imp id fun z hm => ?_
          obtain ⟨m, hm1, hm2⟩ := mem_getD.mp hm
          have := z m (by omega)
          rw [gq m (by omega)] at this
          exact this hm2
theorem stab_iff {R : List (List Nat)} {p : List Nat} : stabB R p = true ↔ ∀ i j, i < 3 → j < 3 → rk R i j < rk R i (p.getD i 0) → rk R (3 + j) i < rk R (3 + j) (backN p j) → False := by
  unfold stabB
  rw [List.isEmpty_iff, List.filter_eq_nil_iff]
  constructor
  · intro h i j hi hj h1 h2
    refine h (i, j) ?_ (decide_eq_true h2)
    unfold pairsL
    exact List.mem_flatMap.mpr ⟨i, List.mem_range.mpr hi, List.mem_map.mpr ⟨j, List.mem_filter.mpr ⟨List.mem_range.mpr hj, decide_eq_true h1⟩, rfl⟩⟩
  · intro h q hq hz
    unfold pairsL at hq
    obtain ⟨i, hi, hq⟩ := List.mem_flatMap.mp hq
    obtain ⟨j, hj, rfl⟩ := List.mem_map.mp hq
    obtain ⟨hj, h1⟩ := List.mem_filter.mp hj
    exact h i j (List.mem_range.mp hi) (List.mem_range.mp hj) (of_decide_eq_true h1) (of_decide_eq_true hz)
noncomputable def ranksL (Os : List (List Nat)) : List (List Nat) := Os.map fun o => (List.range 4).map fun j => o.idxOf j
theorem rk_ranks {Os : List (List Nat)} (hl : Os.length = 6) {i j : Nat} (hi : i < 6) (hj : j < 4) : rk (ranksL Os) i j = (Os.getD i []).idxOf j := by
  unfold rk ranksL
  have h1 : (Os.map fun o => (List.range 4).map fun j => o.idxOf j).getD i [] = (List.range 4).map fun j => (Os.getD i []).idxOf j := by simp [show i < Os.length by omega]
  rw [h1]
  simp [hj]
theorem ranks_ok {Os : List (List Nat)} (hl : Os.length = 6) : RanksOk (ranksL Os) := by
  refine ⟨by simp [ranksL, hl], fun i hi => ?_⟩
  unfold ranksL
  simp [show i < Os.length by omega]
theorem rk_ask {Os : List (List Nat)} (hl : Os.length = 6) {i j : Nat} (hi : i < 3) (hj : j < 4) : rk (ranksL Os) i j = rkP (Os.take 3) i j := by
  rw [rk_ranks hl (by omega) hj]
  unfold rkP
  congr 1
  simp [List.getElem?_take, hi]
theorem rk_asked {Os : List (List Nat)} (hl : Os.length = 6) {i j : Nat} (hi : i < 3) (hj : j < 4) : rk (ranksL Os) (3 + i) j = rkP (Os.drop 3) i j := by
  rw [rk_ranks hl (by omega) hj]
  unfold rkP
  congr 1
  simp
theorem stab_found {Os : List (List Nat)} {p : List Nat} (hl : Os.length = 6) : p ∈ foundL (ranksL Os) ↔ p.length = 3 ∧ Stab (Os.take 3) (Os.drop 3) (fun i => p.getD i 0) (backN p) := by
  unfold foundL
  rw [List.mem_filter, mem_picks, stab_iff]
  have fit : ∀ i j, i < 3 → (j ∈ fitL (ranksL Os) i ↔ j < 3 ∧ rkP (Os.take 3) i j < rkP (Os.take 3) i 3 ∧ rkP (Os.drop 3) j i < rkP (Os.drop 3) j 3) := fun i j hi => by
    unfold fitL
    rw [List.mem_filter, List.mem_range, Bool.and_eq_true, decide_eq_true_eq, decide_eq_true_eq]
    constructor
    · rintro ⟨hj, a, b⟩
      rw [rk_ask hl hi (by omega), rk_ask hl hi (by omega)] at a
      rw [rk_asked hl hj (by omega), rk_asked hl hj (by omega)] at b
      exact ⟨hj, a, b⟩
    · rintro ⟨hj, a, b⟩
      rw [rk_ask hl hi (by omega), rk_ask hl hi (by omega), rk_asked hl hj (by omega), rk_asked hl hj (by omega)]
      exact ⟨hj, a, b⟩
  constructor
  · rintro ⟨⟨pl, hp⟩, hs⟩
    have p4 : ∀ i, i < 3 → p.getD i 0 < 4 := fun i hi => by
      rcases (hp i hi).1 with z | z
      · have := ((fit i _ hi).mp z).1; omega
      · omega
    have pf : ∀ i, i < 3 → p.getD i 0 < 3 → rkP (Os.take 3) i (p.getD i 0) < rkP (Os.take 3) i 3 ∧ rkP (Os.drop 3) (p.getD i 0) i < rkP (Os.drop 3) (p.getD i 0) 3 := fun i hi h => by
      rcases (hp i hi).1 with z | z
      · exact ((fit i _ hi).mp z).2
      · omega
    refine ⟨pl, p4, fun j _ => back_le pl j, fun i hi h => ?_, fun j _ h => back_some pl rfl h, fun i hi h => (pf i hi h).1, fun j hj h => ?_, fun i j hi hj h1 h2 => ?_⟩
    · have hb := back_mem pl hi (k := p.getD i 0) rfl
      have he := back_some pl (k := p.getD i 0) rfl hb
      generalize backN p (p.getD i 0) = m at hb he
      rcases Nat.lt_trichotomy m i with z | z | z
      · rcases (hp i hi).2 with y | y
        · omega
        · exact absurd he (y m z)
      · exact z
      · rcases (hp m hb).2 with y | y
        · omega
        · exact absurd he.symm (y i z)
    · have he := back_some pl (k := j) rfl h
      have := (pf _ h (by omega)).2
      rwa [he] at this
    · refine hs i j hi hj ?_ ?_
      · rw [rk_ask hl hi (by omega), rk_ask hl hi (p4 i hi)]; exact h1
      · rw [rk_asked hl hj (by omega), rk_asked hl hj (back_le pl j)]; exact h2
  · rintro ⟨pl, hS⟩
    refine ⟨⟨pl, fun i hi => ⟨?_, ?_⟩⟩, fun i j hi hj h1 h2 => ?_⟩
    · have f4 := hS.fl i hi
      by_cases h3 : p.getD i 0 < 3
      · refine .inl ((fit i _ hi).mpr ⟨h3, hS.fi i hi h3, ?_⟩)
        have e := hS.fg i hi h3
        have := hS.gi _ h3 (by rw [e]; exact hi)
        rwa [e] at this
      · exact .inr (by omega)
    · have f4 := hS.fl i hi
      by_cases h3 : p.getD i 0 < 3
      · refine .inr fun j hj e => ?_
        have e1 := hS.fg i hi h3
        have e2 := hS.fg j (by omega) (by show p.getD j 0 < 3; omega)
        have e2 : backN p (p.getD j 0) = j := e2
        rw [e] at e2
        have e1 : backN p (p.getD i 0) = i := e1
        omega
      · exact .inl (by omega)
    · rw [rk_ask hl hi (by omega), rk_ask hl hi (hS.fl i hi)] at h1
      rw [rk_asked hl hj (by omega), rk_asked hl hj (back_le pl j)] at h2
      exact hS.nb i j hi hj h1 h2
end Mine
end
section
open PySem PySem.W PyProof.Rows PySem.Builtin.Str PySem.Builtin
namespace Mine
theorem pig : ∀ {M N : List Nat} {φ : Nat → Nat}, M.Nodup → (∀ x ∈ M, φ x ∈ N) → (∀ x ∈ M, ∀ y ∈ M, φ x = φ y → x = y) → M.length ≤ N.length
  | [], N, _, _, _, _ => Nat.zero_le _
  | a :: M, N, φ, hn, hm, hi => by
    rw [List.nodup_cons] at hn
    have ha := hm a List.mem_cons_self
    have ih := pig (M := M) (N := N.erase (φ a)) (φ := φ) hn.2 (fun x hx => by
      have hne : φ x ≠ φ a := fun e => hn.1 (by rw [← hi x (List.mem_cons_of_mem _ hx) a List.mem_cons_self e]; exact hx)
      exact (List.mem_erase_of_ne hne).mpr (hm x (List.mem_cons_of_mem _ hx))) fun x hx y hy => hi x (List.mem_cons_of_mem _ hx) y (List.mem_cons_of_mem _ hy)
    have := List.length_erase_of_mem ha
    have : 0 < N.length := List.length_pos_of_mem ha
    simp only [List.length_cons]
    omega
theorem filt_len {p q : Nat → Bool} : ∀ {l : List Nat}, (∀ x ∈ l, q x = true → p x = true) → (l.filter q).length ≤ (l.filter p).length
  | [], _ => Nat.le_refl _
  | a :: l, h => by
    have ih := filt_len (p := p) (q := q) (l := l) fun x hx => h x (List.mem_cons_of_mem _ hx)
    have ha := h a List.mem_cons_self
    rw [List.filter_cons, List.filter_cons]
    cases hq : q a with
    | true => rw [ha hq]; simp; omega
    | false => cases p a <;> simp <;> omega
theorem filt_same {p q : Nat → Bool} : ∀ {l : List Nat}, (∀ x ∈ l, q x = true → p x = true) → (l.filter p).length ≤ (l.filter q).length → ∀ x ∈ l, p x = q x
  | [], _, _, x, hx => by cases hx
  | a :: l, h, hl, x, hx => by
    have hle := filt_len (p := p) (q := q) (l := l) fun x hx => h x (List.mem_cons_of_mem _ hx)
    have ha := h a List.mem_cons_self
    rw [List.filter_cons, List.filter_cons] at hl
    have key : p a = q a ∧ (l.filter p).length ≤ (l.filter q).length := by
      cases hq : q a with
      | true => rw [ha hq, hq] at hl; simp at hl; exact ⟨ha hq, hl⟩
      | false =>
        rw [hq] at hl
        cases hp : p a with
        | true => rw [hp] at hl; simp at hl; omega
        | false => rw [hp] at hl; simp at hl; exact ⟨rfl, hl⟩
    rcases List.mem_cons.mp hx with rfl | hx
    · exact key.1
    · exact filt_same (fun x hx => h x (List.mem_cons_of_mem _ hx)) key.2 x hx
/-- the same ones are left alone in the askers' best and in another one that is the asked's best -/
theorem rural {A P : List (List Nat)} {f1 g1 f2 g2 : Nat → Nat} (S1 : Stab A P f1 g1) (S2 : Stab A P f2 g2) (b1 : ∀ i, i < 3 → rkP A i (f1 i) ≤ rkP A i (f2 i)) (b2 : ∀ j, j < 3 → rkP P j (g2 j) ≤ rkP P j (g1 j)) : ∀ i, i < 3 → (f1 i < 3 ↔ f2 i < 3) := by
  have hA : ∀ i, i < 3 → f2 i < 3 → f1 i < 3 := fun i hi h => by
    have h4 := S1.fl i hi
    by_cases h3 : f1 i = 3
    · have := b1 i hi
      have := S2.fi i hi h
      rw [h3] at *
      omega
    · omega
  have hP : ∀ j, j < 3 → g1 j < 3 → g2 j < 3 := fun j hj h => by
    have h4 := S2.gl j hj
    by_cases h3 : g2 j = 3
    · have := b2 j hj
      have := S1.gi j hj h
      rw [h3] at *
      omega
    · omega
  have hg : ∀ i, i < 3 → f1 i < 3 → g2 (f1 i) < 3 ∧ f2 (g2 (f1 i)) = f1 i := fun i hi h => by
    have e := S1.fg i hi h
    have h2 := hP (f1 i) h (by omega)
    exact ⟨h2, S2.gf _ h h2⟩
  have len := pig (M := (List.range 3).filter fun i => decide (f1 i < 3)) (N := (List.range 3).filter fun i => decide (f2 i < 3)) (φ := fun i => g2 (f1 i)) (List.nodup_range.filter _) (fun x hx => by
    obtain ⟨hx, h⟩ := List.mem_filter.mp hx
    obtain ⟨h1, h2⟩ := hg x (List.mem_range.mp hx) (of_decide_eq_true h)
    refine List.mem_filter.mpr ⟨List.mem_range.mpr h1, decide_eq_true ?_⟩
    show f2 (g2 (f1 x)) < 3
    rw [h2]; exact of_decide_eq_true h) fun x hx y hy e => by
    obtain ⟨hx, hx1⟩ := List.mem_filter.mp hx
    obtain ⟨hy, hy1⟩ := List.mem_filter.mp hy
    have hx := List.mem_range.mp hx
    have hy := List.mem_range.mp hy
    have hx1 := of_decide_eq_true hx1
    have hy1 := of_decide_eq_true hy1
    have e : g2 (f1 x) = g2 (f1 y) := e
    have e1 := (hg x hx hx1).2
    have e2 := (hg y hy hy1).2
    rw [e, e2] at e1
    have e3 := S1.fg x hx hx1
    have e4 := S1.fg y hy hy1
    rw [← e1, e4] at e3
    exact e3.symm
  have same := filt_same (p := fun i => decide (f1 i < 3)) (q := fun i => decide (f2 i < 3)) (l := List.range 3) (fun x hx h => decide_eq_true (hA x (List.mem_range.mp hx) (of_decide_eq_true h))) len
  intro i hi
  have := same i (List.mem_range.mpr hi)
  exact decide_eq_decide.mp this
/-- the asked's best is the askers' worst -/
theorem worst {A P : List (List Nat)} {f g f2 g2 : Nat → Nat} (hA : OrdOk A) (hP : OrdOk P) (S : Stab A P f g) (S2 : Stab A P f2 g2) (b2 : ∀ j, j < 3 → rkP P j (g2 j) ≤ rkP P j (g j)) {k : Nat} (hk : k < 3) : rkP A k (f k) ≤ rkP A k (f2 k) := by
  rcases Nat.lt_or_ge (rkP A k (f2 k)) (rkP A k (f k)) with z | z
  · exfalso
    have h4 := S2.fl k hk
    have h4' := S.fl k hk
    by_cases h3 : f2 k = 3
    · rw [h3] at z
      by_cases hf : f k < 3
      · have := S.fi k hk hf; omega
      · have : f k = 3 := by omega
        rw [this] at z; omega
    · have h3 : f2 k < 3 := by omega
      have e := S2.fg k hk h3
      have hb := b2 (f2 k) h3
      rw [e] at hb
      have ne : g (f2 k) ≠ k := fun h => by
        have := S.gf (f2 k) h3 (by omega)
        rw [h] at this
        rw [this] at z; omega
      have lt : rkP P (f2 k) k < rkP P (f2 k) (g (f2 k)) := by
        rcases Nat.lt_or_ge (rkP P (f2 k) k) (rkP P (f2 k) (g (f2 k))) with y | y
        · exact y
        · exact absurd (rk_inj hP h3 (S.gl _ h3) (by omega) (by omega)) ne
      exact S.nb k (f2 k) hk h3 z lt
  · exact z
theorem Stab.congr {A P : List (List Nat)} {f g f' g' : Nat → Nat} (h : Stab A P f g) (ef : ∀ i, i < 3 → f' i = f i) (eg : ∀ j, j < 3 → g' j = g j) : Stab A P f' g' := by
  refine ⟨fun i hi => ?_, fun j hj => ?_, fun i hi h1 => ?_, fun j hj h1 => ?_, fun i hi h1 => ?_, fun j hj h1 => ?_, fun i j hi hj h1 h2 => ?_⟩
  · rw [ef i hi]; exact h.fl i hi
  · rw [eg j hj]; exact h.gl j hj
  · rw [ef i hi] at h1 ⊢; rw [eg _ h1]; exact h.fg i hi h1
  · rw [eg j hj] at h1 ⊢; rw [ef _ h1]; exact h.gf j hj h1
  · rw [ef i hi] at h1 ⊢; exact h.fi i hi h1
  · rw [eg j hj] at h1 ⊢; exact h.gi j hj h1
  · rw [ef i hi] at h1; rw [eg j hj] at h2; exact h.nb i j hi hj h1 h2
theorem row_at {f : Nat → Nat} {i : Nat} (hi : i < 3) : ((List.range 3).map f).getD i 0 = f i := by simp [hi]
theorem back_of {A P : List (List Nat)} {f g : Nat → Nat} (h : Stab A P f g) {j : Nat} (hj : j < 3) : backN ((List.range 3).map f) j = g j := by
  have pl : ((List.range 3).map f).length = 3 := by simp
  have g4 := h.gl j hj
  by_cases hb : backN ((List.range 3).map f) j < 3
  · have e := back_some pl (k := j) rfl hb
    rw [row_at hb] at e
    have := h.fg _ hb (by omega)
    rw [e] at this
    exact this.symm
  · have b3 : backN ((List.range 3).map f) j = 3 := by have := back_le pl j; omega
    by_cases hg : g j < 3
    · have e := h.gf j hj hg
      exact absurd (back_mem pl hg ((row_at hg).trans e)) hb
    · omega
noncomputable def gotL (l : List Nat) : List Nat := (List.range 3).map (backN l)
/-- what law asks of its two offices, told plainly -/
structure Told (Os : List (List Nat)) (s1 s2 : OSt) : Prop where
  alone1 : ((List.range 3).filter fun k => !decide (k ∈ mates3 s1.held)) = (List.range 3).filter fun k => decide ((mates3 s2.held).getD k 0 = 3)
  alone2 : ((List.range 3).filter fun k => !decide (k ∈ mates3 s2.held)) = (List.range 3).filter fun k => decide ((mates3 s1.held).getD k 0 = 3)
  least : ∀ k, k < 3 → (∃ p ∈ foundL (ranksL Os), rk (ranksL Os) k (p.getD k 0) = rk (ranksL Os) k ((gotL (mates3 s1.held)).getD k 0)) ∧ ∀ p ∈ foundL (ranksL Os), rk (ranksL Os) k ((gotL (mates3 s1.held)).getD k 0) ≤ rk (ranksL Os) k (p.getD k 0)
  most : ∀ k, k < 3 → (∃ p ∈ foundL (ranksL Os), rk (ranksL Os) k (p.getD k 0) = rk (ranksL Os) k ((mates3 s2.held).getD k 0)) ∧ ∀ p ∈ foundL (ranksL Os), rk (ranksL Os) k (p.getD k 0) ≤ rk (ranksL Os) k ((mates3 s2.held).getD k 0)
  pos1 : ∀ k, k < 3 → s1.pos.getD k 0 = rk (ranksL Os) k ((gotL (mates3 s1.held)).getD k 0) + if (gotL (mates3 s1.held)).getD k 0 < 3 then 1 else 0
  pos2 : ∀ k, k < 3 → s2.pos.getD k 0 = rk (ranksL Os) (3 + k) ((gotL (mates3 s2.held)).getD k 0) + if (gotL (mates3 s2.held)).getD k 0 < 3 then 1 else 0
theorem told {Os : List (List Nat)} {s1 s2 : OSt} (hl : Os.length = 6) (hA : OrdOk (Os.take 3)) (hP : OrdOk (Os.drop 3)) (d1 : Done (Os.take 3) (Os.drop 3) s1) (d2 : Done (Os.drop 3) (Os.take 3) s2) : Told Os s1 s2 := by
  have l1 := mates_len s1.held
  have l2 := mates_len s2.held
  have S1 := d1.stab
  have S2 := d2.stab.swap
  have b1 := fun i (hi : i < 3) => d1.best _ _ S2 i hi
  have b2 := fun j (hj : j < 3) => d2.best _ _ S1.swap j hj
  have ru1 := rural S1 S2 b1 b2
  have ru2 := rural S2.swap S1.swap b2 b1
  have p1 : gotL (mates3 s1.held) ∈ foundL (ranksL Os) := (stab_found hl).mpr ⟨by simp [gotL], S1.congr (fun i hi => row_at hi) fun j hj => back_of S1 hj⟩
  have p2 : mates3 s2.held ∈ foundL (ranksL Os) := (stab_found hl).mpr ⟨l2, S2.congr (fun i hi => mates_at hi) fun j hj => rfl⟩
  have mem_lt : ∀ {l : List Nat}, l.length = 3 → ∀ k, (k ∈ l ↔ backN l k < 3) := fun {l} hl k => by
    constructor
    · intro h
      obtain ⟨i, hi, e⟩ := mem_getD.mp h
      exact back_mem hl (by omega) e
    · intro h
      have e := back_some hl (k := k) rfl h
      exact mem_getD.mpr ⟨_, by omega, e⟩
  refine ⟨?_, ?_, fun k hk => ⟨⟨_, p1, rfl⟩, fun p hp => ?_⟩, fun k hk => ⟨⟨_, p2, rfl⟩, fun p hp => ?_⟩, fun k hk => ?_, fun k hk => ?_⟩
  · refine List.filter_congr fun k hk => ?_
    have hk := List.mem_range.mp hk
    rw [mates_at hk]
    have h4 := S2.fl k hk
    have h := ru1 k hk
    rw [Bool.eq_iff_iff, Bool.not_eq_true', decide_eq_false_iff_not, decide_eq_true_eq, mem_lt l1]
    constructor
    · intro z; have := mt h.mpr z; omega
    · intro z y; have := h.mp y; omega
  · refine List.filter_congr fun k hk => ?_
    have hk := List.mem_range.mp hk
    rw [mates_at hk]
    have h4 := S1.gl k hk
    have h := ru2 k hk
    rw [Bool.eq_iff_iff, Bool.not_eq_true', decide_eq_false_iff_not, decide_eq_true_eq, mem_lt l2]
    constructor
    · intro z; have := mt h.mpr z; omega
    · intro z y; have := h.mp y; omega
  · obtain ⟨pl, hS⟩ := (stab_found hl).mp hp
    have e : (gotL (mates3 s1.held)).getD k 0 = backN (mates3 s1.held) k := row_at hk
    rw [e, rk_ask hl hk (S1.fl k hk), rk_ask hl hk (hS.fl k hk)]
    exact d1.best _ _ hS k hk
  · obtain ⟨pl, hS⟩ := (stab_found hl).mp hp
    rw [mates_at hk, rk_ask hl hk (S2.fl k hk), rk_ask hl hk (hS.fl k hk)]
    exact worst hA hP hS S2 (fun j hj => d2.best _ _ hS.swap j hj) hk
  · have e : (gotL (mates3 s1.held)).getD k 0 = backN (mates3 s1.held) k := row_at hk
    rw [e, rk_ask hl hk (S1.fl k hk)]
    exact d1.pos k hk
  · have e : (gotL (mates3 s2.held)).getD k 0 = backN (mates3 s2.held) k := row_at hk
    rw [e, rk_asked hl hk (d2.stab.fl k hk)]
    exact d2.pos k hk
end Mine
end
section
open PySem PySem.W PyProof.Rows PySem.Builtin.Str PySem.Builtin
namespace Mine
section
variable {prog : Program} {w : World} {base : Heap} {k : Nat} {env : Env} {V : List (Str × D)}
theorem EvIt.range2 {e1 e2 : Expr} {rp pos : Pos} {a n : Nat} (hg : GlobIs prog w base "range" (.type "range")) (hk : env.kindOf "range" = some .globalImplicit) (h1 : Ev prog w base k env V e1 (.int a)) (h2 : Ev prog w base k env V e2 (.int ((a + n : Nat) : Int)))
    (he : starEach [e1, e2] env = (false, eval e1 env) :: starEach [e2] env := by rfl) (he2 : starEach [e2] env = [(false, eval e2 env)] := by rfl) (hn : (a + n : Nat) < 2 ^ 40 := by decide) :
    EvIt prog w base k env V (.Call (.Name "range" rp) [e1, e2] [] pos) ((List.range n).map fun i : Nat => .int ((a + i : Nat) : Int)) := Seal.mk fun A X s Q E g S q => by
  refine Call_Name rfl (hg.out A env s _ E rp S.kind S.glob S.blt hk S.kept ?_)
  refine PyProof.Rows.callWith_type1 (h := ?_) (he := he) (hplain := by rw [he2]; rfl)
  refine (Evs.cons h1 (Evs.cons h2 Evs.nil (by rw [he2]; rfl)) he).out A X s _ E pos g S fun vs s' r ks => ?_
  obtain ⟨_, _, rfl, r1, r2⟩ := r.inv2
  obtain ⟨t, rfl⟩ := r1.inv
  obtain ⟨u, rfl⟩ := r2.inv
  refine call_range_2 (wpAny_pyIter_range (IsRange.new ..) (small_one (by omega) (by omega) (by omega) (by omega)) ?_)
  have hsz : Builtin.Range.rangeSize (a : Int) ((a + n : Nat) : Int) 1 = (n : Int) := by rw [rangeSize_one]; split <;> omega
  generalize e1 : s'.heap.push { cls := .type "range", data := .fields #[.int (a : Int) t, .int ((a + n : Nat) : Int) u, .int 1 s'.toks] } = h1
  have hk1 : Kp s'.heap h1 := fun b o e => e1 ▸ Heap.get?_push_of_some _ e
  have sz : h1.objs.size = s'.heap.objs.size + 1 := by rw [← e1, Heap.size_push]
  refine q h1.objs.size _ (⟨[h1.objs.size], fun j v => ∃ t, v = .int ((a : Int) + (j : Int) * 1) t, fun i h => IsRangeIter h h1.objs.size ((a : Int) + (i : Nat) * 1) ((n : Int) - (i : Nat)) 1, fun A hh => ?_, ?_, fun j h' st => ⟨_, st, .inr (.inl rfl)⟩, fun b hb => ?_, fun j v hj p => ?_⟩) ?_ ⟨_, Heap.get?_push_size _ rfl⟩ ?_
  · have := Walks.range (prog := prog) (w := w) hh h1.objs.size a 1 n
    simpa using this
  · rw [hsz]
    have := Heap.get?_push_size h1 (o := { cls := .type "range_iterator", data := .fields #[rawInt (a : Int), rawInt (n : Int), rawInt 1] }) rfl
    simpa [IsRangeIter] using this
  · simp only [List.mem_cons, List.not_mem_nil, or_false] at hb
    subst hb
    exact ⟨.inl rfl, _, Heap.get?_push_size _ rfl⟩
  · obtain ⟨t', rfl⟩ := p
    refine ⟨.int ((a + j : Nat) : Int), by simp at hj; simp [hj], ?_⟩
    rw [show ((a : Int) + (j : Int) * 1) = ((a + j : Nat) : Int) by omega]
    exact .int _ _
  · refine ks.none ?_
    cases e : s'.heap.get? h1.objs.size with
    | none => rfl
    | some o => exact absurd (Heap.lt_size e) (by rw [sz]; exact Nat.not_lt.mpr (Nat.le_succ _))
  · exact ks.then ⟨h1.push _, s'.toks + 1, rfl, fun b o e => Heap.get?_push_of_some _ (hk1 b o e)⟩
theorem c_join0 {ws : List (List Nat)} (h : ws.flatten.length ≤ 5000) : OpL prog w base k (fun vs => call (.builtin "str.join") vs) [.str (S []), .list (sD ws)] (.str (S ws.flatten)) := by
  have := c_join (prog := prog) (w := w) (base := base) (k := k) (x := S []) (xs := ws.map S) (by
    unfold JoinOk tooLong
    rw [StrLaws.joinTotal, sum_len_S, sizeLine_eq, List.length_map]
    have : (S ([] : List Nat)).length = 0 := rfl
    rw [this, Bool.not_eq_true', decide_eq_false_iff_not]
    omega)
  rw [List.map_map] at this
  have e := join_empty ws
  rw [show PySem.Str.empty = S [] from rfl] at e
  rw [e] at this
  exact this
end
/-! what header_decode makes of the mail -/
theorem writ_dec : ((List.range 256).all fun n => (swapC 95 32 (writL n) == [n] && !(n == 61)) || (match swapC 95 32 (writL n) with | [c, a, b] => c == 61 && hexP [a, b] && hexV [a, b] == n | _ => false)) = true := by decide +kernel
theorem dec_app {n : Nat} (hn : n < 256) (r : List Nat) : decL (swapC 95 32 (writL n) ++ r) = n :: decL r := by
  have h := List.all_eq_true.mp writ_dec n (List.mem_range.mpr hn)
  simp only [Bool.or_eq_true, Bool.and_eq_true, beq_iff_eq, Bool.not_eq_true', beq_eq_false_iff_ne] at h
  rcases h with ⟨h1, h2⟩ | h
  · rw [h1]
    show decL (n :: r) = _
    rw [decL_cons, if_neg (by simp [h2])]
  · generalize swapC 95 32 (writL n) = l at h
    match l, h with
    | [c, a, b], h =>
      simp only [Bool.and_eq_true, beq_iff_eq] at h
      obtain ⟨⟨rfl, hp⟩, hv⟩ := h
      show decL (61 :: a :: b :: r) = _
      have e1 : hexP (a :: b :: r) = hexP [a, b] := rfl
      have e2 : hexV (a :: b :: r) = hexV [a, b] := rfl
      rw [decL_cons, e1, e2, hp, hv]
      rfl
theorem swapC_app (c d : Nat) (l r : List Nat) : swapC c d (l ++ r) = swapC c d l ++ swapC c d r := List.map_append
theorem dec_flat : ∀ {O : List Nat} (_ : ∀ n ∈ O, n < 256) (r : List Nat), decL (swapC 95 32 (O.flatMap writL) ++ r) = O ++ decL r
  | [], _, _ => rfl
  | n :: O, h, r => by
    rw [List.flatMap_cons, swapC_app, List.append_assoc, dec_app (h n List.mem_cons_self), dec_flat fun m hm => h m (List.mem_cons_of_mem _ hm)]
    rfl
theorem dec_plain : ∀ {l : List Nat} (_ : 61 ∉ l) (r : List Nat), decL (l ++ r) = l ++ decL r
  | [], _, _ => rfl
  | c :: l, h, r => by
    show decL (c :: (l ++ r)) = _
    rw [decL_cons, if_neg (by simp; intro e; exact absurd (by rw [e]; exact List.mem_cons_self) h), dec_plain fun hm => h (List.mem_cons_of_mem _ hm)]
    rfl
noncomputable def mailL (x : List Nat) : List Nat := [61, 63] ++ isoL ++ [63, 113, 63] ++ x ++ [63, 61]
theorem mail_is {O : List Nat} (hO : OctOk O) : encL isoL (bsL O) = mailL (O.flatMap writL) := by
  unfold encL mailL
  rw [if_neg (by
    intro e
    have := congrArg List.length e
    simp [hO.len] at this), latin_bs hO.lt]
theorem mail_dec {O : List Nat} (hO : OctOk O) : hdecL (mailL (O.flatMap writL)) = mailL O := by
  unfold hdecL mailL
  rw [swapC_app, swapC_app, swapC_app, swapC_app]
  have e1 : swapC 95 32 [61, 63] = 61 :: [63] := rfl
  have e2 : swapC 95 32 isoL = isoL := rfl
  have e3 : swapC 95 32 [63, 113, 63] = [63, 113, 63] := rfl
  have e4 : swapC 95 32 [63, 61] = [63, 61] := rfl
  rw [e1, e2, e3, e4]
  have e5 : (61 :: [63]) ++ isoL ++ [63, 113, 63] ++ swapC 95 32 (O.flatMap writL) ++ [63, 61] = 61 :: ([63] ++ (isoL ++ ([63, 113, 63] ++ (swapC 95 32 (O.flatMap writL) ++ [63, 61])))) := by simp
  have e6 : [61, 63] ++ isoL ++ [63, 113, 63] ++ O ++ [63, 61] = 61 :: ([63] ++ (isoL ++ ([63, 113, 63] ++ (O ++ [63, 61])))) := by simp
  rw [e5, e6, decL_cons, if_neg (by
    have : ∀ r : List Nat, hexP ([63] ++ r) = false := fun r => by cases r <;> rfl
    rw [this]; decide), dec_plain (l := [63]) (by decide), dec_plain (l := isoL) (by decide), dec_plain (l := [63, 113, 63]) (by decide), dec_flat hO.lt]
  rfl
end Mine
end
section
open PySem PySem.W PyProof.Rows PySem.Builtin.Str PySem.Builtin
namespace Mine
noncomputable def octL (ns : List Int) : List Nat := (List.range 6).map fun k : Nat => ((cellL ns 0 + 43 * (k : Int)) % 256).toNat
noncomputable def ordsL (ns : List Int) : List (List Nat) := (List.range 6).map fun i => orderL (cellL ns (1 + i))
noncomputable def turnO (O : List Nat) : List Nat := O.drop 3 ++ O.take 3
noncomputable def turnL (Os : List (List Nat)) : List (List Nat) := Os.drop 3 ++ Os.take 3
theorem oct_ok (ns : List Int) : OctOk (octL ns) := by
  refine ⟨by simp [octL], ?_, fun x hx => ?_⟩
  · refine map_nodup List.nodup_range fun a ha b hb e => ?_
    have ha := List.mem_range.mp ha
    have hb := List.mem_range.mp hb
    omega
  · obtain ⟨k, _, rfl⟩ := List.mem_map.mp hx
    omega
theorem turn_ok {O : List Nat} (h : OctOk O) : OctOk (turnO O) := by
  have p : (turnO O).Perm O := by
    unfold turnO
    have := List.perm_append_comm (l₁ := O.drop 3) (l₂ := O.take 3)
    rwa [List.take_append_drop] at this
  exact ⟨p.length_eq.trans h.len, p.symm.nodup h.nodup, fun x hx => h.lt x (p.mem_iff.mp hx)⟩
theorem ords_len (ns : List Int) : (ordsL ns).length = 6 := by simp [ordsL]
theorem ords_at {ns : List Int} {i : Nat} (hi : i < 6) : (ordsL ns).getD i [] = orderL (cellL ns (1 + i)) := by simp [ordsL, hi]
theorem ords_ask (ns : List Int) : OrdOk ((ordsL ns).take 3) := fun k hk => by
  have e : ((ordsL ns).take 3).getD k [] = (ordsL ns).getD k [] := by simp [List.getElem?_take, hk]
  rw [e, ords_at (by omega)]
  exact order_perm _
theorem ords_asked (ns : List Int) : OrdOk ((ordsL ns).drop 3) := fun k hk => by
  have e : ((ordsL ns).drop 3).getD k [] = (ordsL ns).getD (3 + k) [] := by simp
  rw [e, ords_at (by omega)]
  exact order_perm _
theorem turn_nD (O : List Nat) : nD (turnO O) = (nD O).drop 3 ++ (nD O).take 3 := by
  unfold turnO
  show List.map _ _ = _
  rw [List.map_append, List.map_drop, List.map_take]
theorem turn_nnD (Os : List (List Nat)) : nnD (turnL Os) = (nnD Os).drop 3 ++ (nnD Os).take 3 := by
  unfold turnL
  show List.map _ _ = _
  rw [List.map_append, List.map_drop, List.map_take]
theorem turn_sD (O : List Nat) : sD (wW (turnO O)) = (sD (wW O)).drop 3 ++ (sD (wW O)).take 3 := by
  unfold wW turnO
  show List.map _ (List.map _ _) = (List.map _ (List.map _ _)).drop 3 ++ (List.map _ (List.map _ _)).take 3
  rw [List.map_append, List.map_append, List.map_drop, List.map_take, List.map_drop, List.map_take]
noncomputable def VL1 (so : Obj) (ns : List Int) : List (Str × D) := [("script", .obj so []), ("octets", .list (nD (octL ns))), ("turned", .list (nD (turnO (octL ns)))), ("orders", .list (nnD (ordsL ns))), ("swapped", .list (nnD (turnL (ordsL ns)))), ("names", .list (sD ((octL ns).map figL))), ("words", .list (sD (wW (octL ns))))]
section
variable {w : World} {base : Heap} {k : Nat}
theorem mulok : ∀ i : Fin 6, Builtin.Int.intBits 43 ≤ 64 := by decide +kernel
theorem law_1 {L : Addr} {so : Obj} {ns : List Int} {R : D → Prop} (G : Gl w base) (hs : ScrOk so ns) :
    Ex P0 w base (k + 5) (callEnvC (fnData P0 38 181) L 181) (bindable (fnData P0 38 181).scope.names) [("script", .obj so [])] [] ((bodyOf 38 181).take 6) (fun V' O' => Has V' (VL1 so ns) ∧ O' = []) R := by
  have hz := sizeLine_eq
  have hO := oct_ok ns
  have hl := hO.len
  have ol := ords_len ns
  refine Ex.step (Step.assignComp (out := nD (octL ns)) [("script", .obj so [])] ⟨rfl, rfl, trivial⟩ (EvIt.range G.b_range (by with_unfolding_all rfl) (n := 6) Ev.int) (fun s C hk => ?_) (by decide +kernel) rfl (by rw [List.length_map]; omega)) ?_
  · have G := G.kp hk
    have e : nD (octL ns) = (List.range 6).map fun i : Nat => D.int ((cellL ns 0 + 43 * (i : Int)) % 256) := by
      unfold octL
      show List.map _ (List.map _ _) = _
      rw [List.map_map]
      refine List.map_congr_left fun i _ => ?_
      show D.int _ = D.int _
      rw [Int.toNat_of_nonneg (Int.emod_nonneg _ (by decide))]
    rw [e]
    refine CL.map (α := Nat) (fun i => .int (i : Int)) (fun i => .int ((cellL ns 0 + 43 * (i : Int)) % 256)) (List.range 6) rfl rfl (by decide +kernel) rfl fun i hi => ?_
    refine Ev.binop (a := .int (cellL ns 0 + 43 * (i : Int))) (b := .int ((256 : Nat) : Int)) ?_ Ev.int (modN (b := 256) (by decide))
    refine Ev.binop (a := .int (cellL ns 0)) (b := .int (43 * (i : Int))) ?_ (Ev.binop (a := .int 43) (b := .int (i : Int)) Ev.int (Ev.name rfl) (op_mul (.of_left (by decide +kernel)))) op_add
    exact Ev.callF G.n_law_cell (by with_unfolding_all rfl) G.d_law_cell.fn (Evs.cons (Ev.name rfl) (Evs.cons (d := .int ((0 : Nat) : Int)) Ev.int Evs.nil)) (def_cell (k := k + 4) (p := 0) G hs (by decide))
  refine Ex.step (Step.assign (d := .list (nD (turnO (octL ns)))) ?_ (by decide +kernel) rfl) ?_
  · rw [turn_nD]
    exact Ev.binop (a := .list ((nD (octL ns)).drop 3)) (b := .list ((nD (octL ns)).take 3)) (Ev.sliceF (a := 3) (Ev.name rfl) Ev.int (by simp [hl]) (by simp [hl])) (Ev.sliceTo (a := 3) (Ev.name rfl) Ev.int (by simp [hl])) (op_addLs (by simp [hl]))
  refine Ex.step (Step.assignComp (out := nnD (ordsL ns)) [("script", .obj so [])] ⟨rfl, rfl, trivial⟩ (EvIt.range2 G.b_range (by with_unfolding_all rfl) (a := 1) (n := 6) Ev.int Ev.int) (fun s C hk => ?_) (by decide +kernel) rfl (by rw [List.length_map]; omega)) ?_
  · have G := G.kp hk
    have e : nnD (ordsL ns) = (List.range 6).map fun i : Nat => D.list (nD (orderL (cellL ns (1 + i)))) := by
      unfold ordsL
      show List.map _ (List.map _ _) = _
      rw [List.map_map]; rfl
    rw [e]
    refine CL.map (α := Nat) (fun i => .int ((1 + i : Nat) : Int)) (fun i => .list (nD (orderL (cellL ns (1 + i))))) (List.range 6) rfl rfl (by decide +kernel) rfl fun i hi => ?_
    have hi := List.mem_range.mp hi
    exact Ev.callF G.n_law_order (by with_unfolding_all rfl) G.d_law_order.fn (Evs.cons (Ev.callF G.n_law_cell (by with_unfolding_all rfl) G.d_law_cell.fn (Evs.cons (Ev.name rfl) (Evs.cons (Ev.name rfl) Evs.nil)) (def_cell (k := k + 4) (p := 1 + i) G hs (by omega))) Evs.nil) (def_order (k := k + 4) G)
  refine Ex.step (Step.assign (d := .list (nnD (turnL (ordsL ns)))) ?_ (by decide +kernel) rfl) ?_
  · rw [turn_nnD]
    exact Ev.binop (a := .list ((nnD (ordsL ns)).drop 3)) (b := .list ((nnD (ordsL ns)).take 3)) (Ev.sliceF (a := 3) (Ev.name rfl) Ev.int (by simp [ol]) (by simp [ol])) (Ev.sliceTo (a := 3) (Ev.name rfl) Ev.int (by simp [ol])) (op_addLs (by simp [ol]))
  refine Ex.step (Step.assign (d := .list (sD ((octL ns).map figL))) (Ev.comp [] trivial (EvIt.list (Ev.name rfl)) (fun s C hk => ?_) (by rw [List.length_map, List.length_map]; omega)) (by decide +kernel) rfl) ?_
  · have G := G.kp hk
    rw [show sD ((octL ns).map figL) = (octL ns).map fun c => D.str (S (figL c)) by show List.map _ (List.map _ _) = _; rw [List.map_map]; rfl]
    exact CL.map (α := Nat) (fun c => .int (c : Int)) (fun c => D.str (S (figL c))) (octL ns) rfl rfl (by decide +kernel) rfl fun c hc => Ev.callF G.n_law_figures (by with_unfolding_all rfl) G.d_law_figures.fn (Evs.cons (Ev.name rfl) Evs.nil) (def_figures (k := k + 4) G (hO.lt c hc))
  refine Ex.step (Step.assignComp (out := sD (wW (octL ns))) [] trivial (EvIt.list (Ev.name rfl)) (fun s C hk => ?_) (by decide +kernel) rfl (by unfold wW; rw [List.length_map, List.length_map]; omega)) ?_
  · have G := G.kp hk
    unfold wW
    rw [show sD ((octL ns).map writL) = (octL ns).map fun c => D.str (S (writL c)) by show List.map _ (List.map _ _) = _; rw [List.map_map]; rfl]
    exact CL.map (α := Nat) (fun c => .int (c : Int)) (fun c => D.str (S (writL c))) (octL ns) rfl rfl (by decide +kernel) rfl fun c hc => Ev.callF G.n_law_written (by with_unfolding_all rfl) G.d_law_written.fn (Evs.cons (Ev.name rfl) Evs.nil) (def_written (k := k + 3) G (hO.lt c hc))
  exact Ex.nil ⟨Has.cons rfl (Has.cons rfl (Has.cons rfl (Has.cons rfl (Has.cons rfl (Has.cons rfl (Has.cons rfl Has.nil)))))), rfl⟩
end
end Mine
end
section
open PySem PySem.W PyProof.Rows PySem.Builtin.Str PySem.Builtin
namespace Mine
theorem EvT.strS {prog : Program} {w : World} {base : Heap} {k : Nat} {env : Env} {V : List (Str × D)} {T U : Prop} {x : Str} {n : Nat} {p : Pos} {l : List Nat} (h : x = S l) : EvT prog w base T U k env V (.Constant (.str x) n p) (.str (S l)) := h ▸ EvT.str
theorem alike_self {n : Nat} {l : List D} (h : ∀ d ∈ l, Alike n d d true) : Alike (n + 1) (.list l) (.list l) true := .list (Alike.refl_all h)
theorem alike_nat {n : Nat} {d : D} {l : List Nat} (h : d ∈ nD l) : Alike n d d true := by
  obtain ⟨x, _, rfl⟩ := List.mem_map.mp h
  have := Alike.int (n := n) (x : Int) (x : Int)
  rwa [beq_self_eq_true] at this
theorem alike_str {n : Nat} {x : Str} : Alike n (.str x) (.str x) true := by
  have := Alike.str (n := n) x x
  rwa [decide_eq_true rfl] at this
theorem alike_sd {n : Nat} {d : D} {l : List (List Nat)} (h : d ∈ sD l) : Alike n d d true := by
  obtain ⟨x, _, rfl⟩ := List.mem_map.mp h
  exact alike_str
section
variable {prog : Program} {w : World} {base : Heap} {k : Nat}
theorem cmp_neN (l : List Nat) : Op2 prog w base k (compareOp .NotEq) (.list (nD l)) (.list (nD l)) (.bool false) := cmp_neL (n := 0) (alike_self fun d h => alike_nat h) (by decide)
theorem cmp_neW (l : List (List Nat)) : Op2 prog w base k (compareOp .NotEq) (.list (sD l)) (.list (sD l)) (.bool false) := cmp_neL (n := 0) (alike_self fun d h => alike_sd h) (by decide)
theorem cmp_neWW (ll : List (List (List Nat))) : Op2 prog w base k (compareOp .NotEq) (.list (ll.map fun l => D.list (sD l))) (.list (ll.map fun l => D.list (sD l))) (.bool false) := cmp_neL (n := 1) (alike_self fun d h => by
  obtain ⟨l, _, rfl⟩ := List.mem_map.mp h
  exact alike_self fun d h => alike_sd h) (by decide)
theorem cmp_neSelf (l : List Nat) : Op2 prog w base k (compareOp .NotEq) (.str (S l)) (.str (S l)) (.bool false) := by
  have := cmp_sne (prog := prog) (w := w) (base := base) (k := k) (x := S l) (y := S l)
  rwa [decide_eq_true rfl] at this
end
section
variable {w : World} {base : Heap} {k : Nat}
theorem law_2 {L : Addr} {so : Obj} {ns : List Int} {R : D → Prop} (G : Gl w base) :
    Ex P0 w base (k + 5) (callEnvC (fnData P0 38 181) L 181) (bindable (fnData P0 38 181).scope.names) (VL1 so ns) [] (((bodyOf 38 181).drop 6).take 4) (fun V' O' => Has V' (VL1 so ns) ∧ O' = []) R := by
  have hz := sizeLine_eq
  have hO := oct_ok ns
  have hl := hO.len
  have fl := flat_short (ws := wW (octL ns)) fun a ha => by
    obtain ⟨c, _, rfl⟩ := List.mem_map.mp ha
    have := writL_len c
    omega
  have wl : (wW (octL ns)).length = 6 := by unfold wW; rw [List.length_map, hl]
  have ef : (wW (octL ns)).flatten = (octL ns).flatMap writL := by unfold wW; rw [List.flatMap_def]
  rw [ef, wl] at fl
  have ml : ∀ x : List Nat, (mailL x).length = x.length + 17 := fun x => by simp [mailL, isoL]
  have m61 : ∀ c ∈ mailL ((octL ns).flatMap writL), c < 256 := fun c hc => by
    unfold mailL at hc
    simp only [List.mem_append, List.mem_cons, List.not_mem_nil, or_false, List.mem_flatMap] at hc
    rcases hc with (((z | z) | z) | ⟨n, hn, z⟩) | z
    · omega
    · have : ∀ c ∈ isoL, c < 256 := by decide
      exact this c z
    · omega
    · exact (writ_is (hO.lt n hn)).2.2.2.2.1 c z
    · omega
  have eq1 : ((octL ns).map fun c => D.str (S (quoteL c))) = sD ((octL ns).map fun c => 61 :: figL c) := by
    show _ = List.map _ (List.map _ _)
    rw [List.map_map]; rfl
  refine ExT.all (Ex.toT (Ex.ifF (N1 := fun V' O' => V' = _ ∧ O' = _) (Tr.compare (a := .list (sD ((octL ns).map fun c => 61 :: figL c))) (b := .list (sD ((octL ns).map fun c => 61 :: figL c))) ?_ ?_ (cmp_neW _)) (Ex.nil ⟨rfl, rfl⟩) fun V' O' hh => ?_))
  · refine Ev.comp [] trivial (EvIt.list (Ev.name rfl)) (fun s C hk => ?_) (by rw [List.length_map, List.length_map]; omega)
    have G := G.kp hk
    rw [← eq1]
    refine CL.map (α := Nat) (fun c => .int (c : Int)) (fun c => .str (S (quoteL c))) (octL ns) rfl rfl (by decide +kernel) rfl fun c hc => ?_
    have hc := hO.lt c hc
    have cc := c_chr (prog := P0) (w := w) (base := s.heap) (k := k + 5) (i := (c : Int)) (by omega) (by omega)
    rw [Int.toNat_natCast] at cc
    exact Ev.callF G.n_quote (by with_unfolding_all rfl) G.d_quote.fn (Evs.cons (Ev.callB G.b_chr (by with_unfolding_all rfl) (Evs.cons (Ev.name rfl) Evs.nil) cc) Evs.nil) (def_quote (k := k + 4) G hc)
  · refine Ev.comp [] trivial (EvIt.list (Ev.name rfl)) (fun s C hk => ?_) (by rw [List.length_map, List.length_map]; omega)
    have e1 : sD ((octL ns).map figL) = (octL ns).map fun c => D.str (S (figL c)) := by
      show List.map _ (List.map _ _) = _
      rw [List.map_map]; rfl
    have e2 : sD ((octL ns).map fun c => 61 :: figL c) = (octL ns).map fun c => D.str (S ([61] ++ figL c)) := by
      show List.map _ (List.map _ _) = _
      rw [List.map_map]; rfl
    rw [e1, e2]
    exact CL.map (α := Nat) (fun c => .str (S (figL c))) (fun c => .str (S ([61] ++ figL c))) (octL ns) rfl rfl (by decide +kernel) rfl fun c hc => Ev.binop (a := .str (S [61])) (Ev.strS (by decide +kernel)) (Ev.name rfl) (op_catS (by simp [fig_len]))
  obtain ⟨rfl, rfl⟩ := hh
  refine ExT.all (ExT.step (Step.assign (d := .str (S (mailL ((octL ns).flatMap writL)))) ?_ (by decide +kernel) rfl) ?_)
  · rw [← mail_is hO]
    exact Ev.callF G.n_header_encode (by with_unfolding_all rfl) G.d_header_encode.fn (Evs.cons (Ev.callT G.b_bytes (by with_unfolding_all rfl) (Evs.cons (Ev.name rfl) Evs.nil) (c_bytesN (ns := octL ns) hO.lt (by omega))) Evs.nil) (def_encode1 (k := k + 4) G (by simp [hl]))
  have em : ∀ x : List Nat, mailL x = ([61, 63, 105, 115, 111, 45, 56, 56, 53, 57, 45, 49, 63, 113, 63] ++ x) ++ [63, 61] := fun x => rfl
  refine ExT.ifF (U := True) (TrT.compare (U' := False) (a := .str (S (mailL ((octL ns).flatMap writL)))) (b := .str (S (mailL ((octL ns).flatMap writL)))) (Ev.toT (Ev.name rfl)) ?_ (cmp_neSelf _)) rfl ?_
  · rw [em]
    refine EvT.binop (U' := False) (a := .str (S ([61, 63, 105, 115, 111, 45, 56, 56, 53, 57, 45, 49, 63, 113, 63] ++ (octL ns).flatMap writL))) (b := .str (S [63, 61])) (Ev.toT (Ev.binop (a := .str (S [61, 63, 105, 115, 111, 45, 56, 56, 53, 57, 45, 49, 63, 113, 63])) (b := .str (S ((octL ns).flatMap writL))) (Ev.strS (by decide +kernel)) ?_ (op_catS (by simp only [List.length_cons, List.length_nil]; omega)))) (EvT.strS (by decide +kernel)) (op_catS (by simp only [List.length_append, List.length_cons, List.length_nil]; omega))
    rw [← ef]
    exact Ev.meth (id := "str.join") (a := .str (S [])) (ds := [.list (sD (wW (octL ns)))]) (Ev.strS (by decide +kernel)) (Evs.cons (Ev.name rfl) Evs.nil) (strne "str" (by decide)) PySem.F.plainAttrs_str PySem.F.slot_str_join PySem.F.type_str_join (c_join0 (by rw [ef]; omega))
  have hd := def_hdecode (k := k + 1) (l := mailL ((octL ns).flatMap writL)) G (by rw [ml]; omega) m61
  rw [mail_dec hO] at hd
  refine ExT.ifF (U := False) (TrT.compare (U' := True) (a := .str (S (mailL (octL ns)))) (b := .str (S (mailL (octL ns)))) (EvT.call1 (T := True) (U := True) (c := .str (S (mailL ((octL ns).flatMap writL)))) G.n_header_decode (by with_unfolding_all rfl) G.d_header_decode.fn (Ev.toT (Ev.name rfl)) hd) ?_ (cmp_neSelf _)) rfl ?_
  · rw [em]
    refine EvT.binop (U' := True) (a := .str (S ([61, 63, 105, 115, 111, 45, 56, 56, 53, 57, 45, 49, 63, 113, 63] ++ octL ns))) (b := .str (S [63, 61])) (Ev.toT (Ev.binop (a := .str (S [61, 63, 105, 115, 111, 45, 56, 56, 53, 57, 45, 49, 63, 113, 63])) (b := .str (S (octL ns))) (Ev.strS (by decide +kernel)) ?_ (op_catS (by simp only [List.length_cons, List.length_nil]; omega)))) (EvT.strS (by decide +kernel)) (op_catS (by simp only [List.length_append, List.length_cons, List.length_nil]; omega))
    have e1 : ((octL ns).map fun c => [c]).flatten = octL ns := by
      generalize octL ns = l
      induction l with
      | nil => rfl
      | cons a r ih => simp [ih]
    have e2 : sD ((octL ns).map fun c => [c]) = (octL ns).map fun c => D.str (S [c]) := by
      show List.map _ (List.map _ _) = _
      rw [List.map_map]; rfl
    have cj := c_join0 (prog := P0) (w := w) (base := base) (k := k + 5) (ws := (octL ns).map fun c => [c]) (by rw [e1]; omega)
    rw [e1] at cj
    refine Ev.meth (id := "str.join") (a := .str (S [])) (ds := [.list (sD ((octL ns).map fun c => [c]))]) (Ev.strS (by decide +kernel)) (Evs.cons ?_ Evs.nil) (strne "str" (by decide)) PySem.F.plainAttrs_str PySem.F.slot_str_join PySem.F.type_str_join cj
    refine Ev.comp [] trivial (EvIt.list (Ev.name rfl)) (fun s C hk => ?_) (by rw [List.length_map, List.length_map]; omega)
    have G := G.kp hk
    rw [e2]
    refine CL.map (α := Nat) (fun c => .int (c : Int)) (fun c => .str (S [c])) (octL ns) rfl rfl (by decide +kernel) rfl fun c hc => ?_
    have hc := hO.lt c hc
    have cc := c_chr (prog := P0) (w := w) (base := s.heap) (k := k + 5) (i := (c : Int)) (by omega) (by omega)
    rw [Int.toNat_natCast] at cc
    exact Ev.callB G.b_chr (by with_unfolding_all rfl) (Evs.cons (Ev.name rfl) Evs.nil) cc
  exact Ex.toT (Ex.nil ⟨Has.cons rfl (Has.cons rfl (Has.cons rfl (Has.cons rfl (Has.cons rfl (Has.cons rfl (Has.cons rfl Has.nil)))))), rfl⟩)
end
end Mine
end
section
open PySem PySem.W PyProof.Rows PySem.Builtin.Str PySem.Builtin
namespace Mine
theorem take_at {α : Type} {l : List (List α)} {i : Nat} (hi : i < 3) : (l.take 3).getD i [] = l.getD i [] := by simp [hi]
theorem drop_at {α : Type} {l : List (List α)} {i : Nat} : (l.drop 3).getD i [] = l.getD (3 + i) [] := by simp
theorem turn_at {α : Type} {l : List (List α)} (hl : l.length = 6) {i : Nat} (hi : i < 3) : (l.drop 3 ++ l.take 3).getD i [] = l.getD (3 + i) [] := by
  simp [List.getElem?_append, hl, hi]
  rw [List.getElem?_eq_getElem (show 3 + i < l.length by omega)]; rfl
theorem turn_at' {α : Type} {l : List (List α)} (hl : l.length = 6) {i : Nat} (hi : i < 3) : (l.drop 3 ++ l.take 3).getD (3 + i) [] = l.getD i [] := by
  simp [List.getElem?_append, hl, hi, show ¬ 3 + i < 3 by omega]
  rw [List.getElem?_eq_getElem (show i < l.length by omega)]; rfl
theorem turnO_at {l : List Nat} (hl : l.length = 6) {i : Nat} (hi : i < 3) : (turnO l).getD i 0 = l.getD (3 + i) 0 := by
  unfold turnO
  simp [List.getElem?_append, hl, hi]
  rw [List.getElem?_eq_getElem (show 3 + i < l.length by omega)]; rfl
theorem turnO_at' {l : List Nat} (hl : l.length = 6) {i : Nat} (hi : i < 3) : (turnO l).getD (3 + i) 0 = l.getD i 0 := by
  unfold turnO
  simp [List.getElem?_append, hl, hi, show ¬ 3 + i < 3 by omega]
  rw [List.getElem?_eq_getElem (show i < l.length by omega)]; rfl
theorem wW_turn (O : List Nat) : wW (turnO O) = (wW O).drop 3 ++ (wW O).take 3 := by
  unfold wW turnO
  rw [List.map_append, List.map_drop, List.map_take]
theorem wW_len {O : List Nat} (h : OctOk O) : (wW O).length = 6 := by unfold wW; rw [List.length_map, h.len]
/-- an asker's row, read from the asked's side -/
theorem row_mine {O : List Nat} (hO : OctOk O) {k : Nat} (hk : k < 3) (l : List Nat) : rowW (wW O) k l = l.map (cwP (turnO O) k) := by
  unfold rowW
  refine List.map_congr_left fun j _ => ?_
  unfold cwP
  rw [wW_turn]
  split
  · rename_i hj; rw [turn_at (wW_len hO) hj]
  · rw [turn_at' (wW_len hO) hk]
theorem row_theirs {O : List Nat} (hO : OctOk O) {k : Nat} (hk : k < 3) (l : List Nat) : rowW (wW (turnO O)) k l = l.map (cwP O k) := by
  unfold rowW
  refine List.map_congr_left fun j _ => ?_
  unfold cwP
  rw [wW_turn]
  split
  · rename_i hj; rw [turn_at' (wW_len hO) hj]
  · rw [turn_at (wW_len hO) hk]
theorem zeros {i : Nat} (hi : i < 3) : ([0, 0, 0] : List Nat).getD i 0 = 0 := by
  have : ∀ i : Fin 3, ([0, 0, 0] : List Nat).getD i.val 0 = 0 := by decide
  exact this ⟨i, hi⟩
theorem rows_mine {O : List Nat} (hO : OctOk O) (Os : List (List Nat)) (st : List Nat) : ((List.range 3).map fun i => D.list (sD (rowW (wW O) i ((Os.getD i []).drop (st.getD i 0))))) = (List.range 3).map fun a => D.list (sD ((((Os.take 3).getD a []).drop (st.getD a 0)).map (cwP (turnO O) a))) :=
  List.map_congr_left fun i hi => by
    have hi := List.mem_range.mp hi
    rw [row_mine hO hi, take_at hi]
theorem rows_theirs {O : List Nat} (hO : OctOk O) {Os : List (List Nat)} (hl : Os.length = 6) (st : List Nat) : ((List.range 3).map fun i => D.list (sD (rowW (wW (turnO O)) i (((turnL Os).getD i []).drop (st.getD i 0))))) = (List.range 3).map fun a => D.list (sD ((((Os.drop 3).getD a []).drop (st.getD a 0)).map (cwP O a))) :=
  List.map_congr_left fun i hi => by
    have hi := List.mem_range.mp hi
    rw [row_theirs hO hi, drop_at]
    unfold turnL
    rw [turn_at hl hi]
theorem wish_0 (O : List Nat) (P : List (List Nat)) : ((List.range 3).map fun a => D.list (sD (((P.getD a []).drop (([0, 0, 0] : List Nat).getD a 0)).map (cwP O a)))) = (List.range 3).map fun a => D.list (sD ((P.getD a []).map (cwP O a))) :=
  List.map_congr_left fun i hi => by rw [zeros (List.mem_range.mp hi), List.drop_zero]
/-! the lines -/
noncomputable def kv1L (O : List Nat) (A : List (List Nat)) : List (List Nat × List Nat) := (List.range 3).map fun k => (figL (O.getD k 0), 34 :: (rest O A k 0 ++ [34]))
noncomputable def kv2L (O : List Nat) (A : List (List Nat)) : List (List Nat × List Nat) := (List.range 3).map fun k => (figL (O.getD k 0), rest O A k 0)
noncomputable def txtL (ns : List Int) : List (List Nat) := [] :: ((kv1L (octL ns) ((ordsL ns).take 3)).map (fun p => p.1 ++ 61 :: p.2) ++ (kv2L (turnO (octL ns)) ((ordsL ns).drop 3)).map fun p => p.1 ++ 61 :: p.2)
noncomputable def VL3 (so : Obj) (ns : List Int) : List (Str × D) := ("mine", wishD (turnO (octL ns)) ((ordsL ns).take 3)) :: ("theirs", wishD (octL ns) ((ordsL ns).drop 3)) :: ("lines", .list ((kv1L (octL ns) ((ordsL ns).take 3)).map kvS)) :: ("others", .list ((kv2L (turnO (octL ns)) ((ordsL ns).drop 3)).map kvS)) :: ("texts", .list (sD (txtL ns))) :: VL1 so ns
section
variable {w : World} {base : Heap} {k : Nat}
theorem law_3 {L : Addr} {so : Obj} {ns : List Int} {R : D → Prop} (G : Gl w base) :
    Ex P0 w base (k + 5) (callEnvC (fnData P0 38 181) L 181) (bindable (fnData P0 38 181).scope.names) (VL1 so ns) [] (((bodyOf 38 181).drop 10).take 5) (fun V' O' => Has V' (VL3 so ns) ∧ O' = []) R := by
  have hz := sizeLine_eq
  have hO := oct_ok ns
  have hT := turn_ok hO
  have ol := ords_len ns
  have wl := wW_len hO
  have wt := wW_len hT
  have hA := ords_ask ns
  have hP := ords_asked ns
  refine Ex.step (Step.assign (d := wishD (turnO (octL ns)) ((ordsL ns).take 3)) ?_ (by decide +kernel) rfl) ?_
  · rw [show wishD (turnO (octL ns)) ((ordsL ns).take 3) = _ by unfold wishD; rw [← wish_0, ← rows_mine hO]]
    exact Ev.callF G.n_law_rows (by with_unfolding_all rfl) G.d_law_rows.fn (Evs.cons (Ev.name rfl) (Evs.cons (Ev.name rfl) (Evs.cons (Ev.list (ds := nD [0, 0, 0]) (Evs.cons Ev.int (Evs.cons Ev.int (Evs.cons Ev.int Evs.nil))) (by show 3 ≤ sizeLine; omega)) Evs.nil))) (def_rows (k := k + 4) (W := wW (octL ns)) (Os := ordsL ns) (st := [0, 0, 0]) G wl (by omega) (by omega) rfl fun i hi => by
      have := perm_len (hA i hi)
      rw [take_at hi] at this
      rw [zeros hi, this]; omega)
  refine Ex.step (Step.assign (d := wishD (octL ns) ((ordsL ns).drop 3)) ?_ (by decide +kernel) rfl) ?_
  · rw [show wishD (octL ns) ((ordsL ns).drop 3) = _ by unfold wishD; rw [← wish_0, ← rows_theirs hO ol]]
    refine Ev.callF G.n_law_rows (by with_unfolding_all rfl) G.d_law_rows.fn (Evs.cons ?_ (Evs.cons (Ev.name rfl) (Evs.cons (Ev.list (ds := nD [0, 0, 0]) (Evs.cons Ev.int (Evs.cons Ev.int (Evs.cons Ev.int Evs.nil))) (by show 3 ≤ sizeLine; omega)) Evs.nil))) (def_rows (k := k + 4) (W := wW (turnO (octL ns))) (Os := turnL (ordsL ns)) (st := [0, 0, 0]) G wt (by simp [turnL, ol]) (by simp [turnL, ol]) rfl fun i hi => by
      have := perm_len (hP i hi)
      rw [drop_at] at this
      unfold turnL
      rw [zeros hi, turn_at ol hi, this]; omega)
    rw [turn_sD]
    exact Ev.binop (a := .list ((sD (wW (octL ns))).drop 3)) (b := .list ((sD (wW (octL ns))).take 3)) (Ev.sliceF (a := 3) (Ev.name rfl) Ev.int (by simp [wl]) (by simp [wl])) (Ev.sliceTo (a := 3) (Ev.name rfl) Ev.int (by simp [wl])) (op_addLs (by simp [wl]))
  have jn : ∀ {O : List Nat} {A : List (List Nat)} {k : Nat}, OctOk O → OrdOk A → k < 3 → (rowW (wW O) k ((A.getD k []).drop 0)).length + (rowW (wW O) k ((A.getD k []).drop 0)).flatten.length ≤ 44 := fun {O A k} hO hA hk => by
    have l2 := flat_short (ws := rowW (wW O) k ((A.getD k []).drop 0)) fun a ha => by have := (row_ok hO hk a ha).2.2.2; omega
    have l3 : (rowW (wW O) k ((A.getD k []).drop 0)).length = 4 := by
      unfold rowW
      rw [List.length_map, List.length_drop, perm_len (hA k hk)]
    omega
  refine Ex.step (Step.assignComp (out := (kv1L (octL ns) ((ordsL ns).take 3)).map kvS) [("names", .list (sD ((octL ns).map figL))), ("mine", wishD (turnO (octL ns)) ((ordsL ns).take 3))] ⟨rfl, rfl, rfl, rfl, trivial⟩ (EvIt.range G.b_range (by with_unfolding_all rfl) (n := 3) Ev.int) (fun s C hk => ?_) (by decide +kernel) rfl (by simp [kv1L]; omega)) ?_
  · have G := G.kp hk
    unfold kv1L
    rw [List.map_map]
    refine CL.map (α := Nat) (fun i => .int (i : Int)) (fun i => .str (S (figL ((octL ns).getD i 0) ++ 61 :: 34 :: (rest (octL ns) ((ordsL ns).take 3) i 0 ++ [34])))) (List.range 3) rfl rfl (by decide +kernel) rfl fun i hi => ?_
    have hi := List.mem_range.mp hi
    have e : figL ((octL ns).getD i 0) ++ 61 :: 34 :: (rest (octL ns) ((ordsL ns).take 3) i 0 ++ [34]) = ((figL ((octL ns).getD i 0) ++ [61, 34]) ++ rest (octL ns) ((ordsL ns).take 3) i 0) ++ [34] := by simp
    have rl := rest_len hO hA (p := 0) hi
    rw [e]
    refine Ev.binop (a := .str (S ((figL ((octL ns).getD i 0) ++ [61, 34]) ++ rest (octL ns) ((ordsL ns).take 3) i 0))) (b := .str (S [34])) (Ev.binop (a := .str (S (figL ((octL ns).getD i 0) ++ [61, 34]))) (b := .str (S (rest (octL ns) ((ordsL ns).take 3) i 0)))
      (Ev.binop (a := .str (S (figL ((octL ns).getD i 0)))) (b := .str (S [61, 34])) (Ev.sub (a := .list (sD ((octL ns).map figL))) (b := .int (i : Int)) (Ev.name rfl) (Ev.name rfl) (g_listN (get_fig hO (by omega)))) (Ev.strS (by decide +kernel)) (op_catS ?h1)) ?hj (op_catS ?h2)) (Ev.strS (by decide +kernel)) (op_catS ?h3)
    case h1 => simp only [fig_len, List.length_append, List.length_cons, List.length_nil]; omega
    case h2 => simp only [fig_len, List.length_append, List.length_cons, List.length_nil]; omega
    case h3 => simp only [fig_len, List.length_append, List.length_cons, List.length_nil]; omega
    case hj =>
      have er : (((ordsL ns).take 3).getD i []).map (cwP (turnO (octL ns)) i) = rowW (wW (octL ns)) i ((((ordsL ns).take 3).getD i []).drop 0) := by rw [row_mine hO hi, List.drop_zero]
      have wa := wishes_at (O := turnO (octL ns)) (P := (ordsL ns).take 3) hi
      rw [er] at wa
      have cj := c_joinS (prog := P0) (w := w) (base := s.heap) (k := k + 5) (c := 39) (ws := rowW (wW (octL ns)) i ((((ordsL ns).take 3).getD i []).drop 0)) (by have := jn hO hA hi; omega)
      exact Ev.meth (id := "str.join") (a := .str (S [39])) (ds := [.list (sD (rowW (wW (octL ns)) i ((((ordsL ns).take 3).getD i []).drop 0)))]) (Ev.strS (by decide +kernel)) (Evs.cons (Ev.sub (a := wishD (turnO (octL ns)) ((ordsL ns).take 3)) (b := .int (i : Int)) (Ev.name rfl) (Ev.name rfl) (g_listN wa)) Evs.nil) (strne "str" (by decide)) PySem.F.plainAttrs_str PySem.F.slot_str_join PySem.F.type_str_join cj
  refine Ex.step (Step.assignComp (out := (kv2L (turnO (octL ns)) ((ordsL ns).drop 3)).map kvS) [("names", .list (sD ((octL ns).map figL))), ("theirs", wishD (octL ns) ((ordsL ns).drop 3))] ⟨rfl, rfl, rfl, rfl, trivial⟩ (EvIt.range G.b_range (by with_unfolding_all rfl) (n := 3) Ev.int) (fun s C hk => ?_) (by decide +kernel) rfl (by simp [kv2L]; omega)) ?_
  · have G := G.kp hk
    unfold kv2L
    rw [List.map_map]
    refine CL.map (α := Nat) (fun i => .int (i : Int)) (fun i => .str (S (figL ((turnO (octL ns)).getD i 0) ++ 61 :: rest (turnO (octL ns)) ((ordsL ns).drop 3) i 0))) (List.range 3) rfl rfl (by decide +kernel) rfl fun i hi => ?_
    have hi := List.mem_range.mp hi
    have e : figL ((turnO (octL ns)).getD i 0) ++ 61 :: rest (turnO (octL ns)) ((ordsL ns).drop 3) i 0 = (figL ((octL ns).getD (3 + i) 0) ++ [61]) ++ rest (turnO (octL ns)) ((ordsL ns).drop 3) i 0 := by rw [turnO_at hO.len hi]; simp
    have rl := rest_len hT hP (p := 0) hi
    rw [e]
    refine Ev.binop (a := .str (S (figL ((octL ns).getD (3 + i) 0) ++ [61]))) (b := .str (S (rest (turnO (octL ns)) ((ordsL ns).drop 3) i 0)))
      (Ev.binop (a := .str (S (figL ((octL ns).getD (3 + i) 0)))) (b := .str (S [61])) (Ev.sub (a := .list (sD ((octL ns).map figL))) (b := .int ((3 + i : Nat) : Int)) (Ev.name rfl) (Ev.binop (a := .int 3) (b := .int (i : Int)) Ev.int (Ev.name rfl) (op_addN (a := 3))) (g_listN (get_fig hO (by omega)))) (Ev.strS (by decide +kernel)) (op_catS ?h1)) ?hj (op_catS ?h2)
    case h1 => simp only [fig_len, List.length_cons, List.length_nil]; omega
    case h2 => simp only [fig_len, List.length_append, List.length_cons, List.length_nil]; omega
    case hj =>
      have er : (((ordsL ns).drop 3).getD i []).map (cwP (octL ns) i) = rowW (wW (turnO (octL ns))) i ((((ordsL ns).drop 3).getD i []).drop 0) := by rw [row_theirs hO hi, List.drop_zero]
      have wa := wishes_at (O := octL ns) (P := (ordsL ns).drop 3) hi
      rw [er] at wa
      have cj := c_joinS (prog := P0) (w := w) (base := s.heap) (k := k + 5) (c := 39) (ws := rowW (wW (turnO (octL ns))) i ((((ordsL ns).drop 3).getD i []).drop 0)) (by have := jn hT hP hi; omega)
      exact Ev.meth (id := "str.join") (a := .str (S [39])) (ds := [.list (sD (rowW (wW (turnO (octL ns))) i ((((ordsL ns).drop 3).getD i []).drop 0)))]) (Ev.strS (by decide +kernel)) (Evs.cons (Ev.sub (a := wishD (octL ns) ((ordsL ns).drop 3)) (b := .int (i : Int)) (Ev.name rfl) (Ev.name rfl) (g_listN wa)) Evs.nil) (strne "str" (by decide)) PySem.F.plainAttrs_str PySem.F.slot_str_join PySem.F.type_str_join cj
  have l1 : (kv1L (octL ns) ((ordsL ns).take 3)).length = 3 := by simp [kv1L]
  have l2 : (kv2L (turnO (octL ns)) ((ordsL ns).drop 3)).length = 3 := by simp [kv2L]
  refine Ex.step (Step.assign (d := .list (sD (txtL ns))) ?_ (by decide +kernel) rfl) (Ex.nil ⟨?_, rfl⟩)
  · have et : sD (txtL ns) = ([D.str (S [])] ++ (kv1L (octL ns) ((ordsL ns).take 3)).map kvS) ++ (kv2L (turnO (octL ns)) ((ordsL ns).drop 3)).map kvS := by
      unfold txtL
      show D.str (S []) :: List.map _ (List.map _ _ ++ List.map _ _) = _
      rw [List.map_append, List.map_map, List.map_map]
      rfl
    rw [et]
    exact Ev.binop (a := .list ([D.str (S [])] ++ (kv1L (octL ns) ((ordsL ns).take 3)).map kvS)) (b := .list ((kv2L (turnO (octL ns)) ((ordsL ns).drop 3)).map kvS)) (Ev.binop (a := .list [D.str (S [])]) (b := .list ((kv1L (octL ns) ((ordsL ns).take 3)).map kvS)) (Ev.list (Evs.cons (Ev.strS (by decide +kernel)) Evs.nil) (by show 1 ≤ sizeLine; omega)) (Ev.name rfl) (op_addLs (by rw [List.length_map, l1]; decide))) (Ev.name rfl) (op_addLs (by rw [List.length_append, List.length_map, List.length_map, l1, l2]; decide))
  · exact Has.cons rfl (Has.cons rfl (Has.cons rfl (Has.cons rfl (Has.cons rfl (Has.cons rfl (Has.cons rfl (Has.cons rfl (Has.cons rfl (Has.cons rfl (Has.cons rfl (Has.cons rfl Has.nil)))))))))))
end
end Mine
end
section
open PySem PySem.W PyProof.Rows PySem.Builtin.Str PySem.Builtin
namespace Mine
theorem unq_quoted (x : List Nat) : unq (34 :: (x ++ [34])) = x := by
  unfold unq
  rw [if_pos ⟨rfl, by rw [show (34 :: (x ++ [34])) = (34 :: x) ++ [34] from rfl, List.getLast?_append]; rfl⟩]
  simp
theorem putD_new {l : List (Str × D)} {x : Str} {d : D} (h : ∀ p ∈ l, p.1 ≠ x) : putD l x d = l ++ [(x, d)] := by
  unfold putD
  rw [if_neg]
  intro z
  obtain ⟨p, hp, e⟩ := List.any_eq_true.mp z
  exact h p hp (of_decide_eq_true e)
theorem parse_first {O : List Nat} (hO : OctOk O) (f : Nat → List Nat) : ∀ n, n ≤ 3 → parseD ((List.range n).map fun k => (figL (O.getD k 0), f k)) = (List.range n).map fun k => (S (figL (O.getD k 0)), D.str (S (unq (f k))))
  | 0, _ => rfl
  | n + 1, h => by
    rw [List.range_succ, List.map_append, List.map_append]
    show parseD (_ ++ [_]) = _
    rw [parseD_snoc, parse_first hO f n (by omega)]
    refine putD_new fun p hp e => ?_
    obtain ⟨k, hk, rfl⟩ := List.mem_map.mp hp
    have hk := List.mem_range.mp hk
    have := hO.inj (by omega) (by omega) (figL_inj (hO.at (by omega)) (hO.at (by omega)) (S_inj.mp e))
    omega
theorem parse_kv1 {O : List Nat} {A : List (List Nat)} (hO : OctOk O) : parseD (kv1L O A) = stateD O A [0, 0, 0] := by
  unfold kv1L
  rw [parse_first hO _ 3 (Nat.le_refl _)]
  unfold stateD
  refine List.map_congr_left fun k hk => ?_
  rw [unq_quoted, zeros (List.mem_range.mp hk)]
theorem parse_kv2 {O : List Nat} {A : List (List Nat)} (hO : OctOk O) (hA : OrdOk A) : parseD (kv2L O A) = stateD O A [0, 0, 0] := by
  unfold kv2L
  rw [parse_first hO _ 3 (Nat.le_refl _)]
  unfold stateD
  refine List.map_congr_left fun k hk => ?_
  have hk := List.mem_range.mp hk
  rw [unq_rest hO hA hk (by decide), zeros hk]
theorem kv1_ok {O : List Nat} {A : List (List Nat)} (hO : OctOk O) (hA : OrdOk A) : ∀ p ∈ kv1L O A, KvOk p := fun p hp => by
  obtain ⟨k, hk, rfl⟩ := List.mem_map.mp hp
  have hk := List.mem_range.mp hk
  refine ⟨(writ_is (hO.at (by omega))).2.2.2.2.2.2.1, by simp, fun e => by simp at e, ?_⟩
  have := rest_len hO hA (p := 0) hk
  simp only [fig_len, List.length_cons, List.length_append, List.length_nil]; omega
theorem kv2_ok {O : List Nat} {A : List (List Nat)} (hO : OctOk O) (hA : OrdOk A) : ∀ p ∈ kv2L O A, KvOk p := fun p hp => by
  obtain ⟨k, hk, rfl⟩ := List.mem_map.mp hp
  exact rest_kv hO hA (List.mem_range.mp hk) (by decide)
theorem four_of {l : List Nat} (h : l.length = 4) : ∃ a b c d, l = [a, b, c, d] := by
  match l, h with
  | [a, b, c, d], _ => exact ⟨a, b, c, d, rfl⟩
theorem txt_len {ns : List Int} : ∀ x ∈ txtL ns, x.length ≤ 100 := fun x hx => by
  have hO := oct_ok ns
  unfold txtL at hx
  rcases List.mem_cons.mp hx with rfl | hx
  · simp
  · rcases List.mem_append.mp hx with hx | hx
    · obtain ⟨p, hp, rfl⟩ := List.mem_map.mp hx
      obtain ⟨k, hk, rfl⟩ := List.mem_map.mp hp
      have := rest_len hO (ords_ask ns) (p := 0) (List.mem_range.mp hk)
      simp only [fig_len, List.length_cons, List.length_append, List.length_nil]; omega
    · obtain ⟨p, hp, rfl⟩ := List.mem_map.mp hx
      obtain ⟨k, hk, rfl⟩ := List.mem_map.mp hp
      have := rest_len (turn_ok hO) (ords_asked ns) (p := 0) (List.mem_range.mp hk)
      simp only [fig_len, List.length_cons, List.length_append, List.length_nil]; omega
theorem state_keys (O : List Nat) (A : List (List Nat)) (pos : List Nat) : ((stateD O A pos).map fun p => D.str p.1) = (List.range 3).map fun k => D.str (S (figL (O.getD k 0))) := by
  unfold stateD; rw [List.map_map]; rfl
theorem figs_take {O : List Nat} (hO : OctOk O) : (sD (O.map figL)).take 3 = (List.range 3).map fun k => D.str (S (figL (O.getD k 0))) := by
  have hl := hO.len
  match O, hl with
  | [a, b, c, d, e, f], _ => rfl
theorem figs_drop {O : List Nat} (hO : OctOk O) : (sD (O.map figL)).drop 3 = (List.range 3).map fun k => D.str (S (figL ((turnO O).getD k 0))) := by
  have hl := hO.len
  match O, hl with
  | [a, b, c, d, e, f], _ => rfl
noncomputable def VL4 (so : Obj) (ns : List Int) : List (Str × D) := ("wishes", .dict (stateD (turnO (octL ns)) ((ordsL ns).drop 3) [0, 0, 0])) :: ("lists", .dict (stateD (octL ns) ((ordsL ns).take 3) [0, 0, 0])) :: VL3 so ns
section
variable {w : World} {base : Heap} {k : Nat}
/-- a whole list read back -/
theorem ev_four {L : Addr} {O : List Nat} {A : List (List Nat)} {base : Heap} {V : List (Str × D)} {x : Str} {p1 p2 p3 p4 p5 : Pos} {i : Nat} (G : Gl w base) (hO : OctOk O) (hA : OrdOk A) (hi : i < 3) (hx : V.lookup x = some (.dict (stateD O A [0, 0, 0]))) (hd : (x == ("__debug__" : Str)) = false) (hv : V.lookup ("name" : Str) = some (.str (S (figL (O.getD i 0)))))
    (env : Env) (hk : env.kindOf "_law_four" = some .globalImplicit) (he : starEach [Expr.Subscript (.Name x p1) (.Name "name" p2) p3] env = [(false, eval (.Subscript (.Name x p1) (.Name "name" p2) p3) env)] := by rfl) :
    Ev P0 w base (k + 3) env V (.Call (.Name "_law_four" p4) [.Subscript (.Name x p1) (.Name "name" p2) p3] [] p5) (.list (sD ((A.getD i []).map (cwP (turnO O) i)))) := by
  obtain ⟨a, b, c, d, e⟩ := four_of (perm_len (hA i hi))
  have er : (A.getD i []).map (cwP (turnO O) i) = rowW (wW O) i ((A.getD i []).drop 0) := by rw [row_mine hO hi, List.drop_zero]
  have ro := row_ok (l := (A.getD i []).drop 0) hO hi
  have e0 : rest O A i 0 = joinL 39 ((A.getD i []).map (cwP (turnO O) i)) := by unfold rest; rw [er]
  rw [← er] at ro
  rw [e] at e0 ro ⊢
  have df := def_four (k := k + 1) (a := cwP (turnO O) i a) (b := cwP (turnO O) i b) (c := cwP (turnO O) i c) (d := cwP (turnO O) i d) G fun x hx => by
    have := ro x hx
    exact ⟨this.1, by omega⟩
  have sg := state_get (A := A) (pos := [0, 0, 0]) hO hi
  rw [zeros hi, e0] at sg
  exact Ev.callF G.n_law_four hk G.d_law_four.fn (Evs.cons (Ev.sub (a := .dict (stateD O A [0, 0, 0])) (b := .str (S (figL (O.getD i 0)))) (Ev.name hx hd) (Ev.name hv) (g_dict sg)) Evs.nil he) df
end
end Mine
end
section
open PySem PySem.W PyProof.Rows PySem.Builtin.Str PySem.Builtin
namespace Mine
theorem turn_turn {O : List Nat} (h : O.length = 6) : turnO (turnO O) = O := by
  match O, h with
  | [a, b, c, d, e, f], _ => rfl
theorem decode_quotes (x : List Nat) : decodeD (39 :: 39 :: x) = .list (sD [[], [], x]) := by
  have e : spl 39 2 (39 :: 39 :: x) = [[], [], x] := by
    show spl 39 2 ([] ++ 39 :: ([] ++ 39 :: x)) = _
    rw [spl_app 1 _ (by simp), spl_app 0 _ (by simp)]
    cases x <;> rfl
  unfold decodeD
  rw [e]; rfl
section
variable {w : World} {base : Heap} {k : Nat}
theorem law_4 {L : Addr} {so : Obj} {ns : List Int} {R : D → Prop} (G : Gl w base) :
    Ex P0 w base (k + 5) (callEnvC (fnData P0 38 181) L 181) (bindable (fnData P0 38 181).scope.names) (VL3 so ns) [] (((bodyOf 38 181).drop 15).take 5) (fun V' O' => Has V' (VL4 so ns) ∧ O' = []) R := by
  have hz := sizeLine_eq
  have hO := oct_ok ns
  have hT := turn_ok hO
  have hl := hO.len
  have ol := ords_len ns
  have hA := ords_ask ns
  have hP := ords_asked ns
  have tl : (txtL ns).length = 7 := by simp [txtL, kv1L, kv2L]
  have ell : ((txtL ns).map fun x => [[], [], x]).map (fun l => D.list (sD l)) = (txtL ns).map fun x => D.list (sD [[], [], x]) := by rw [List.map_map]; rfl
  have cw := cmp_neWW (prog := P0) (w := w) (base := base) (k := k + 5) ((txtL ns).map fun x => [[], [], x])
  rw [ell] at cw
  refine Ex.ifF (N1 := fun V' O' => V' = _ ∧ O' = _) (Tr.compare (a := .list ((txtL ns).map fun x => D.list (sD [[], [], x]))) (b := .list ((txtL ns).map fun x => D.list (sD [[], [], x]))) ?_ ?_ cw) (Ex.nil ⟨rfl, rfl⟩) fun V' O' hh => ?_
  · refine Ev.comp [] trivial (EvIt.list (Ev.name rfl)) (fun s C hk => ?_) (by rw [List.length_map]; omega)
    have G := G.kp hk
    refine CL.map (α := List Nat) (fun x => .str (S x)) (fun x => D.list (sD [[], [], x])) (txtL ns) rfl rfl (by decide +kernel) rfl fun x hx => ?_
    have hx := txt_len x hx
    rw [← decode_quotes]
    exact Ev.callF G.n_decode_rfc2231 (by with_unfolding_all rfl) G.d_decode_rfc2231.fn (Evs.cons (d := .str (S ([39, 39] ++ x))) (Ev.binop (a := .str (S [39, 39])) (Ev.strS (by decide +kernel)) (Ev.name rfl) (op_catS (by simp; omega))) Evs.nil) (def_decode (k := k + 4) (l := 39 :: 39 :: x) G (by simp; omega))
  · refine Ev.comp [] trivial (EvIt.list (Ev.name rfl)) (fun s C hk => ?_) (by rw [List.length_map]; omega)
    refine CL.map (α := List Nat) (fun x => .str (S x)) (fun x => D.list (sD [[], [], x])) (txtL ns) rfl rfl (by decide +kernel) rfl fun x hx => ?_
    exact Ev.list (ds := sD [[], [], x]) (Evs.cons (Ev.strS (by decide +kernel)) (Evs.cons (Ev.strS (by decide +kernel)) (Evs.cons (Ev.name rfl) Evs.nil))) (by show 3 ≤ sizeLine; omega)
  obtain ⟨rfl, rfl⟩ := hh
  refine Ex.step (Step.assign (d := .dict (stateD (octL ns) ((ordsL ns).take 3) [0, 0, 0])) (Ev.callF G.n_parse_keqv_list (by with_unfolding_all rfl) G.d_parse_keqv_list.fn (Evs.cons (Ev.name rfl) Evs.nil) ?_) (by decide +kernel) rfl) ?_
  · rw [← parse_kv1 hO]; exact def_parse (k := k + 4) G (kv1_ok hO hA) (by simp [kv1L])
  refine Ex.step (Step.assign (d := .dict (stateD (turnO (octL ns)) ((ordsL ns).drop 3) [0, 0, 0])) (Ev.callF G.n_parse_keqv_list (by with_unfolding_all rfl) G.d_parse_keqv_list.fn (Evs.cons (Ev.name rfl) Evs.nil) ?_) (by decide +kernel) rfl) ?_
  · rw [← parse_kv2 hT hP]; exact def_parse (k := k + 4) G (kv2_ok hT hP) (by simp [kv2L])
  have c1 := c_listD (w := w) (base := base) (k := k + 5) (kds := stateD (octL ns) ((ordsL ns).take 3) [0, 0, 0]) (by simp [stateD]; omega)
  have c2 := c_listD (w := w) (base := base) (k := k + 5) (kds := stateD (turnO (octL ns)) ((ordsL ns).drop 3) [0, 0, 0]) (by simp [stateD]; omega)
  rw [state_keys] at c1 c2
  have cn : ∀ O : List Nat, Op2 P0 w base (k + 5) (compareOp .NotEq) (.list ((List.range 3).map fun k => D.str (S (figL (O.getD k 0))))) (.list ((List.range 3).map fun k => D.str (S (figL (O.getD k 0))))) (.bool false) := fun O => by
    have := cmp_neW (prog := P0) (w := w) (base := base) (k := k + 5) ((List.range 3).map fun k => figL (O.getD k 0))
    have e : sD ((List.range 3).map fun k => figL (O.getD k 0)) = (List.range 3).map fun k => D.str (S (figL (O.getD k 0))) := by
      show List.map _ (List.map _ _) = _
      rw [List.map_map]; rfl
    rwa [e] at this
  refine Ex.ifF (N1 := fun V' O' => V' = _ ∧ O' = _) (Tr.of (Tr.or (a := false) (b := false) (Tr.compare (a := .list ((List.range 3).map fun k => D.str (S (figL ((octL ns).getD k 0))))) (b := .list ((List.range 3).map fun k => D.str (S (figL ((octL ns).getD k 0))))) (Ev.callT G.b_list (by with_unfolding_all rfl) (Evs.cons (Ev.name rfl) Evs.nil) c1) ?_ (cn _)) fun _ =>
    Tr.or1 (Tr.compare (a := .list ((List.range 3).map fun k => D.str (S (figL ((turnO (octL ns)).getD k 0))))) (b := .list ((List.range 3).map fun k => D.str (S (figL ((turnO (octL ns)).getD k 0))))) (Ev.callT G.b_list (by with_unfolding_all rfl) (Evs.cons (Ev.name rfl) Evs.nil) c2) ?_ (cn _))) rfl) (Ex.nil ⟨rfl, rfl⟩) fun V' O' hh => ?_
  · rw [← figs_take hO]
    exact Ev.sliceTo (ds := sD ((octL ns).map figL)) (a := 3) (Ev.name rfl) Ev.int (by simp [hl])
  · rw [← figs_drop hO]
    exact Ev.sliceF (ds := sD ((octL ns).map figL)) (a := 3) (Ev.name rfl) Ev.int (by simp [hl]) (by simp [hl])
  obtain ⟨rfl, rfl⟩ := hh
  have cwish : ∀ (O : List Nat) (P : List (List Nat)), Op2 P0 w base (k + 5) (compareOp .NotEq) (wishD O P) (wishD O P) (.bool false) := fun O P => by
    have := cmp_neWW (prog := P0) (w := w) (base := base) (k := k + 5) ((List.range 3).map fun a => (P.getD a []).map (cwP O a))
    rw [List.map_map] at this
    exact this
  refine Ex.ifF (N1 := fun V' O' => V' = _ ∧ O' = _) (Tr.of (Tr.or (a := false) (b := false) (Tr.compare (a := wishD (turnO (octL ns)) ((ordsL ns).take 3)) (b := wishD (turnO (octL ns)) ((ordsL ns).take 3)) ?_ (Ev.name rfl) (cwish _ _)) fun _ =>
    Tr.or1 (Tr.compare (a := wishD (octL ns) ((ordsL ns).drop 3)) (b := wishD (octL ns) ((ordsL ns).drop 3)) ?_ (Ev.name rfl) (cwish _ _))) rfl) (Ex.nil ⟨rfl, rfl⟩) fun V' O' hh => ?_
  · refine Ev.comp [("lists", .dict (stateD (octL ns) ((ordsL ns).take 3) [0, 0, 0]))] ⟨rfl, rfl, trivial⟩ (EvIt.dict (Ev.name rfl)) (fun s C hk => ?_) (by simp; omega)
    have G := G.kp hk
    rw [state_keys]
    exact CL.map (α := Nat) (fun i => D.str (S (figL ((octL ns).getD i 0)))) (fun i => D.list (sD ((((ordsL ns).take 3).getD i []).map (cwP (turnO (octL ns)) i)))) (List.range 3) rfl rfl (by decide +kernel) rfl fun i hi => ev_four (k := k + 2) (L := L) G hO hA (List.mem_range.mp hi) rfl (by decide) rfl _ (by with_unfolding_all rfl)
  · refine Ev.comp [("wishes", .dict (stateD (turnO (octL ns)) ((ordsL ns).drop 3) [0, 0, 0]))] ⟨rfl, rfl, trivial⟩ (EvIt.dict (Ev.name rfl)) (fun s C hk => ?_) (by simp; omega)
    have G := G.kp hk
    rw [state_keys]
    have e2 : ((List.range 3).map fun i => D.list (sD ((((ordsL ns).drop 3).getD i []).map (cwP (octL ns) i)))) = (List.range 3).map fun i => D.list (sD ((((ordsL ns).drop 3).getD i []).map (cwP (turnO (turnO (octL ns))) i))) := by rw [turn_turn hl]
    rw [e2]
    exact CL.map (α := Nat) (fun i => D.str (S (figL ((turnO (octL ns)).getD i 0)))) (fun i => D.list (sD ((((ordsL ns).drop 3).getD i []).map (cwP (turnO (turnO (octL ns))) i)))) (List.range 3) rfl rfl (by decide +kernel) rfl fun i hi => ev_four (k := k + 2) (L := L) G hT hP (List.mem_range.mp hi) rfl (by decide) rfl _ (by with_unfolding_all rfl)
  obtain ⟨rfl, rfl⟩ := hh
  refine Ex.nil ⟨?_, rfl⟩
  exact Has.cons rfl (Has.cons rfl (Has.cons rfl (Has.cons rfl (Has.cons rfl (Has.cons rfl (Has.cons rfl (Has.cons rfl (Has.cons rfl (Has.cons rfl (Has.cons rfl (Has.cons rfl (Has.cons rfl (Has.cons rfl Has.nil)))))))))))))
end
end Mine
end
section
open PySem PySem.W PyProof.Rows PySem.Builtin.Str PySem.Builtin
namespace Mine
noncomputable def s01 (ns : List Int) : OSt := ⟨[0, 0, 0], kv1L (octL ns) ((ordsL ns).take 3), [], [], cellL ns 7⟩
noncomputable def s02 (ns : List Int) : OSt := ⟨[0, 0, 0], kv2L (turnO (octL ns)) ((ordsL ns).drop 3), [], [], cellL ns 7⟩
noncomputable def st1 (ns : List Int) (n : Nat) : OSt := offSt (octL ns) ((ordsL ns).take 3) ((ordsL ns).drop 3) (s01 ns) n
noncomputable def st2 (ns : List Int) (n : Nat) : OSt := offSt (turnO (octL ns)) ((ordsL ns).drop 3) ((ordsL ns).take 3) (s02 ns) n
theorem off0 {O : List Nat} {A : List (List Nat)} {kv : List (List Nat × List Nat)} {z : Int} (hl : kv.length = 3) (ho : ∀ p ∈ kv, KvOk p) (he : parseD kv = stateD O A [0, 0, 0]) : OffOk O A 0 ⟨[0, 0, 0], kv, [], [], z⟩ :=
  ⟨rfl, fun k hk => by show ([0, 0, 0] : List Nat).getD k 0 ≤ _; rw [zeros hk]; exact Nat.zero_le _, hl, ho, he, Nat.le_refl _, fun p hp => (List.not_mem_nil hp).elim, rfl, ⟨List.nodup_nil, fun q hq => (List.not_mem_nil hq).elim⟩⟩
theorem s01_ok (ns : List Int) : OffOk (octL ns) ((ordsL ns).take 3) 0 (s01 ns) := off0 (by simp [kv1L]) (kv1_ok (oct_ok ns) (ords_ask ns)) (parse_kv1 (oct_ok ns))
theorem s02_ok (ns : List Int) : OffOk (turnO (octL ns)) ((ordsL ns).drop 3) 0 (s02 ns) := off0 (by simp [kv2L]) (kv2_ok (turn_ok (oct_ok ns)) (ords_asked ns)) (parse_kv2 (turn_ok (oct_ok ns)) (ords_asked ns))
/-- the ends of the two offices -/
structure Ends (ns : List Int) (n1 n2 : Nat) : Prop where
  l1 : n1 ≤ 9
  stop1 : freeL ((ordsL ns).take 3) (st1 ns n1) = []
  go1 : ∀ m, m < n1 → freeL ((ordsL ns).take 3) (st1 ns m) ≠ []
  l2 : n2 ≤ 9
  stop2 : freeL ((ordsL ns).drop 3) (st2 ns n2) = []
  go2 : ∀ m, m < n2 → freeL ((ordsL ns).drop 3) (st2 ns m) ≠ []
theorem ends (ns : List Int) : ∃ n1 n2, Ends ns n1 n2 := by
  obtain ⟨n1, a, b, c⟩ := off_end (octL ns) (s0 := s01 ns) (ords_ask ns) (ords_asked ns) rfl rfl
  obtain ⟨n2, d, e, f⟩ := off_end (turnO (octL ns)) (s0 := s02 ns) (ords_asked ns) (ords_ask ns) rfl rfl
  exact ⟨n1, n2, a, b, c, d, e, f⟩
section
variable {ns : List Int} {n1 n2 : Nat}
theorem Ends.ok1 (E : Ends ns n1 n2) : OffOk (octL ns) ((ordsL ns).take 3) n1 (st1 ns n1) := off_ok (oct_ok ns) (ords_ask ns) (s01_ok ns) n1 (by have := E.l1; omega) E.go1
theorem Ends.ok2 (E : Ends ns n1 n2) : OffOk (turnO (octL ns)) ((ordsL ns).drop 3) n2 (st2 ns n2) := off_ok (turn_ok (oct_ok ns)) (ords_asked ns) (s02_ok ns) n2 (by have := E.l2; omega) E.go2
theorem Ends.inv1 (E : Ends ns n1 n2) : Inv ((ordsL ns).take 3) ((ordsL ns).drop 3) n1 (st1 ns n1) := off_inv (ords_ask ns) (ords_asked ns) rfl rfl n1 E.go1
theorem Ends.inv2 (E : Ends ns n1 n2) : Inv ((ordsL ns).drop 3) ((ordsL ns).take 3) n2 (st2 ns n2) := off_inv (ords_asked ns) (ords_ask ns) rfl rfl n2 E.go2
theorem Ends.told (E : Ends ns n1 n2) : Told (ordsL ns) (st1 ns n1) (st2 ns n2) :=
  Mine.told (ords_len ns) (ords_ask ns) (ords_asked ns) (done (ords_ask ns) (ords_asked ns) E.inv1 E.stop1) (done (ords_asked ns) (ords_ask ns) E.inv2 E.stop2)
end
noncomputable def fst1 (ns : List Int) (n : Nat) : List Nat := mates3 (st1 ns n).held
noncomputable def snd2 (ns : List Int) (n : Nat) : List Nat := mates3 (st2 ns n).held
noncomputable def VL5 (so : Obj) (ns : List Int) (n1 n2 : Nat) : List (Str × D) := ("second", .list (nD (snd2 ns n2))) :: ("first", .list (nD (fst1 ns n1))) :: ("count", .int (n2 : Int)) :: ("last", .dict (stateD (turnO (octL ns)) ((ordsL ns).drop 3) (st2 ns n2).pos)) :: ("turn", .int (n1 : Int)) :: ("state", .dict (stateD (octL ns) ((ordsL ns).take 3) (st1 ns n1).pos)) :: VL1 so ns
section
variable {w : World} {base : Heap} {k : Nat}
theorem law_5 {L : Addr} {so : Obj} {ns : List Int} {n1 n2 : Nat} {R : D → Prop} (G : Gl w base) (hs : ScrOk so ns) (E : Ends ns n1 n2) :
    Ex P0 w base (k + 5) (callEnvC (fnData P0 38 181) L 181) (bindable (fnData P0 38 181).scope.names) (VL4 so ns) [] (((bodyOf 38 181).drop 20).take 6) (fun V' O' => Has V' (VL5 so ns n1 n2) ∧ O' = []) R := by
  have hz := sizeLine_eq
  have hO := oct_ok ns
  have hT := turn_ok hO
  have hA := ords_ask ns
  have hP := ords_asked ns
  have T := E.told
  have o1 := def_office (w := w) (base := base) (k := k + 1) (s0 := s01 ns) G hO hA hP (s01_ok ns) rfl E.l1 E.stop1 E.go1
  have o2 := def_office (w := w) (base := base) (k := k + 1) (s0 := s02 ns) G hT hP hA (s02_ok ns) rfl E.l2 E.stop2 E.go2
  refine Ex.step (Step.assignTup (d := .tup [.dict (stateD (octL ns) ((ordsL ns).take 3) (st1 ns n1).pos), .dict (heldD (octL ns) (st1 ns n1).held), .int (n1 : Int)]) (Ev.callF G.n_law_office (by with_unfolding_all rfl) G.d_law_office.fn (Evs.cons (Ev.name rfl) (Evs.cons (Ev.name rfl) (Evs.cons (Ev.name rfl) (Evs.cons (Ev.callF G.n_law_cell (by with_unfolding_all rfl) G.d_law_cell.fn (Evs.cons (Ev.name rfl) (Evs.cons (d := .int ((7 : Nat) : Int)) Ev.int Evs.nil)) (def_cell (k := k + 4) (p := 7) G hs (by decide))) Evs.nil)))) o1)
    (Tgt.tup3 (.inr rfl) (by decide +kernel) (by decide +kernel) (by decide +kernel) rfl rfl rfl)) ?_
  refine Ex.step (Step.assignTup (d := .tup [.dict (stateD (turnO (octL ns)) ((ordsL ns).drop 3) (st2 ns n2).pos), .dict (heldD (turnO (octL ns)) (st2 ns n2).held), .int (n2 : Int)]) (Ev.callF G.n_law_office (by with_unfolding_all rfl) G.d_law_office.fn (Evs.cons (Ev.name rfl) (Evs.cons (Ev.name rfl) (Evs.cons (Ev.name rfl) (Evs.cons (Ev.callF G.n_law_cell (by with_unfolding_all rfl) G.d_law_cell.fn (Evs.cons (Ev.name rfl) (Evs.cons (d := .int ((7 : Nat) : Int)) Ev.int Evs.nil)) (def_cell (k := k + 4) (p := 7) G hs (by decide))) Evs.nil)))) o2)
    (Tgt.tup3 (.inr rfl) (by decide +kernel) (by decide +kernel) (by decide +kernel) rfl rfl rfl)) ?_
  refine Ex.step (Step.assign (d := .list (nD (fst1 ns n1))) (Ev.callF G.n_law_mates (by with_unfolding_all rfl) G.d_law_mates.fn (Evs.cons (Ev.name rfl) (Evs.cons (Ev.name rfl) Evs.nil)) (def_mates (k := k) G hO E.ok1.ho)) (by decide +kernel) rfl) ?_
  refine Ex.step (Step.assign (d := .list (nD (snd2 ns n2))) (Ev.callF G.n_law_mates (by with_unfolding_all rfl) G.d_law_mates.fn (Evs.cons (Ev.name rfl) (Evs.cons (Ev.name rfl) Evs.nil)) (def_mates (k := k) G hT E.ok2.ho)) (by decide +kernel) rfl) ?_
  have flz : ∀ c : Nat → Bool, ((List.range 3).filter c).length ≤ 3 := fun c => by have := List.length_filter_le c (List.range 3); simpa using this
  refine Ex.ifF (N1 := fun V' O' => V' = _ ∧ O' = _) (Tr.compare (a := .list (nD ((List.range 3).filter fun k => !decide (k ∈ fst1 ns n1)))) (b := .list (nD ((List.range 3).filter fun k => !decide (k ∈ fst1 ns n1)))) ?_ ?_ (cmp_neN _)) (Ex.nil ⟨rfl, rfl⟩) fun V' O' hh => ?_
  · refine Ev.comp [("first", .list (nD (fst1 ns n1)))] ⟨rfl, rfl, trivial⟩ (EvIt.range G.b_range (by with_unfolding_all rfl) (n := 3) Ev.int) (fun s C hk => ?_) (by rw [List.length_map]; have := flz fun k => !decide (k ∈ fst1 ns n1); omega)
    exact CL.filt (α := Nat) (fun i => .int (i : Int)) (fun i => .int (i : Int)) (fun k => !decide (k ∈ fst1 ns n1)) (List.range 3) rfl rfl (by decide +kernel) rfl (fun i hi => Tr.compare (Ev.name rfl) (Ev.name rfl) cmp_notInN) fun i _ _ => Ev.name rfl
  · have e : (List.range 3).filter (fun k => !decide (k ∈ fst1 ns n1)) = (List.range 3).filter fun k => decide ((snd2 ns n2).getD k 0 = 3) := T.alone1
    rw [e]
    refine Ev.comp [("second", .list (nD (snd2 ns n2)))] ⟨rfl, rfl, trivial⟩ (EvIt.range G.b_range (by with_unfolding_all rfl) (n := 3) Ev.int) (fun s C hk => ?_) (by rw [List.length_map]; have := flz fun k => decide ((snd2 ns n2).getD k 0 = 3); omega)
    exact CL.filt (α := Nat) (fun i => .int (i : Int)) (fun i => .int (i : Int)) (fun k => decide ((snd2 ns n2).getD k 0 = 3)) (List.range 3) rfl rfl (by decide +kernel) rfl (fun i hi => Tr.compare (a := .int ((snd2 ns n2).getD i 0 : Nat)) (b := .int ((3 : Nat) : Int)) (Ev.sub (a := .list (nD (snd2 ns n2))) (b := .int (i : Int)) (Ev.name rfl) (Ev.name rfl) (g_listN (get_nD (by have := mates_len (st2 ns n2).held; have := List.mem_range.mp hi; unfold snd2; omega)) (by have := List.mem_range.mp hi; omega))) Ev.int cmp_eqN) fun i _ _ => Ev.name rfl
  obtain ⟨rfl, rfl⟩ := hh
  refine Ex.ifF (N1 := fun V' O' => V' = _ ∧ O' = _) (Tr.compare (a := .list (nD ((List.range 3).filter fun k => !decide (k ∈ snd2 ns n2)))) (b := .list (nD ((List.range 3).filter fun k => !decide (k ∈ snd2 ns n2)))) ?_ ?_ (cmp_neN _)) (Ex.nil ⟨rfl, rfl⟩) fun V' O' hh => ?_
  · refine Ev.comp [("second", .list (nD (snd2 ns n2)))] ⟨rfl, rfl, trivial⟩ (EvIt.range G.b_range (by with_unfolding_all rfl) (n := 3) Ev.int) (fun s C hk => ?_) (by rw [List.length_map]; have := flz fun k => !decide (k ∈ snd2 ns n2); omega)
    exact CL.filt (α := Nat) (fun i => .int (i : Int)) (fun i => .int (i : Int)) (fun k => !decide (k ∈ snd2 ns n2)) (List.range 3) rfl rfl (by decide +kernel) rfl (fun i hi => Tr.compare (Ev.name rfl) (Ev.name rfl) cmp_notInN) fun i _ _ => Ev.name rfl
  · have e : (List.range 3).filter (fun k => !decide (k ∈ snd2 ns n2)) = (List.range 3).filter fun k => decide ((fst1 ns n1).getD k 0 = 3) := T.alone2
    rw [e]
    refine Ev.comp [("first", .list (nD (fst1 ns n1)))] ⟨rfl, rfl, trivial⟩ (EvIt.range G.b_range (by with_unfolding_all rfl) (n := 3) Ev.int) (fun s C hk => ?_) (by rw [List.length_map]; have := flz fun k => decide ((fst1 ns n1).getD k 0 = 3); omega)
    exact CL.filt (α := Nat) (fun i => .int (i : Int)) (fun i => .int (i : Int)) (fun k => decide ((fst1 ns n1).getD k 0 = 3)) (List.range 3) rfl rfl (by decide +kernel) rfl (fun i hi => Tr.compare (a := .int ((fst1 ns n1).getD i 0 : Nat)) (b := .int ((3 : Nat) : Int)) (Ev.sub (a := .list (nD (fst1 ns n1))) (b := .int (i : Int)) (Ev.name rfl) (Ev.name rfl) (g_listN (get_nD (by have := mates_len (st1 ns n1).held; have := List.mem_range.mp hi; unfold fst1; omega)) (by have := List.mem_range.mp hi; omega))) Ev.int cmp_eqN) fun i _ _ => Ev.name rfl
  obtain ⟨rfl, rfl⟩ := hh
  refine Ex.nil ⟨?_, rfl⟩
  exact Has.cons rfl (Has.cons rfl (Has.cons rfl (Has.cons rfl (Has.cons rfl (Has.cons rfl (Has.cons rfl (Has.cons rfl (Has.cons rfl (Has.cons rfl (Has.cons rfl (Has.cons rfl (Has.cons rfl Has.nil))))))))))))
end
end Mine
end
section
open PySem PySem.W PyProof.Rows PySem.Builtin.Str PySem.Builtin
namespace Mine
noncomputable def posL (s : OSt) : List Nat := (List.range 3).map fun k => s.pos.getD k 0
noncomputable abbrev RL (ns : List Int) : List (List Nat) := ranksL (ordsL ns)
noncomputable def VL6 (so : Obj) (ns : List Int) (n1 n2 : Nat) : List (Str × D) := ("found", .list (nnD (foundL (RL ns)))) :: ("ranks", .list (nnD (RL ns))) :: ("got", .list (nD (gotL (fst1 ns n1)))) :: VL5 so ns n1 n2
theorem pos_ok {O : List Nat} {A : List (List Nat)} {t : Nat} {s : OSt} (h : OffOk O A t s) (hA : OrdOk A) {k : Nat} (hk : k < 3) : (posL s).getD k 0 < 4 := by
  unfold posL
  rw [row_at hk]
  have := h.pp k hk
  have := perm_self (hA k hk)
  omega
theorem got_at {l : List Nat} {k : Nat} (hk : k < 3) : (gotL l).getD k 0 = backN l k := row_at hk
section
variable {w : World} {base : Heap} {k : Nat}
theorem found_len (ns : List Int) : (foundL (RL ns)).length ≤ 64 := by
  have h1 := (picks_ok (RL ns) 3 (Nat.le_refl _)).2
  have h2 := List.length_filter_le (stabB (RL ns)) (picksL (RL ns) 3)
  unfold foundL
  omega
/-- [first.index(k) if k in first else 3 for k in range(3)] -/
theorem law_6 {L : Addr} {so : Obj} {ns : List Int} {n1 n2 : Nat} {R : D → Prop} (G : Gl w base) (E : Ends ns n1 n2) :
    Ex P0 w base (k + 5) (callEnvC (fnData P0 38 181) L 181) (bindable (fnData P0 38 181).scope.names) (VL5 so ns n1 n2) [] (((bodyOf 38 181).drop 27).take 3) (fun V' O' => Has V' (VL6 so ns n1 n2) ∧ O' = []) R := by
  have hz := sizeLine_eq
  have ol := ords_len ns
  have hR := ranks_ok (ords_len ns)
  have l1 := mates_len (st1 ns n1).held
  refine Ex.step (Step.assign (d := .list (nnD (RL ns))) (Ev.comp [] trivial (EvIt.list (Ev.name rfl)) (fun s C hk => ?_) (by rw [List.length_map]; unfold RL ranksL; rw [List.length_map]; omega)) (by decide +kernel) rfl) ?_
  · have G := G.kp hk
    have e : nnD (RL ns) = (ordsL ns).map fun o => D.list (nD ((List.range 4).map fun j => o.idxOf j)) := by
      unfold RL ranksL
      show List.map _ (List.map _ _) = _
      rw [List.map_map]; rfl
    rw [e]
    refine CL.map (α := List Nat) (fun o => .list (nD o)) (fun o => D.list (nD ((List.range 4).map fun j => o.idxOf j))) (ordsL ns) rfl rfl (by decide +kernel) rfl fun o ho => ?_
    have hp : o.Perm [0, 1, 2, 3] := by
      obtain ⟨i, _, rfl⟩ := List.mem_map.mp ho
      exact order_perm _
    refine Ev.comp [("order", .list (nD o))] ⟨rfl, rfl, trivial⟩ (EvIt.range G.b_range (by with_unfolding_all rfl) (n := 4) Ev.int) (fun s2 C2 hk2 => ?_) (by rw [List.length_map, List.length_map, List.length_range]; omega)
    have e2 : nD ((List.range 4).map fun j => o.idxOf j) = (List.range 4).map fun j => D.int (o.idxOf j : Nat) := by
      show List.map _ (List.map _ _) = _
      rw [List.map_map]; rfl
    rw [e2]
    refine CL.map (α := Nat) (fun j => .int (j : Int)) (fun j => D.int (o.idxOf j : Nat)) (List.range 4) rfl rfl (by decide +kernel) rfl fun j hj => ?_
    exact Ev.meth (id := "list.index") (a := .list (nD o)) (ds := [.int (j : Int)]) (Ev.name rfl) (Evs.cons (Ev.name rfl) Evs.nil) (strne "list" (by decide)) PySem.F.plainAttrs_list PySem.F.slot_list_index PySem.F.type_list_index (c_indexN ((perm_mem hp).mpr (List.mem_range.mp hj)) (by rw [perm_len hp]; decide))
  refine Ex.step (Step.assign (d := .list (nnD (foundL (RL ns)))) (Ev.callF G.n_law_pairings (by with_unfolding_all rfl) G.d_law_pairings.fn (Evs.cons (Ev.name rfl) Evs.nil) (def_pairings (k := k + 4) G hR)) (by decide +kernel) rfl) ?_
  refine Ex.step (Step.assign (d := .list (nD (gotL (fst1 ns n1)))) (Ev.comp [("first", .list (nD (fst1 ns n1)))] ⟨rfl, rfl, trivial⟩ (EvIt.range G.b_range (by with_unfolding_all rfl) (n := 3) Ev.int) (fun s C hk => ?_) (by simp [gotL]; omega)) (by decide +kernel) rfl) (Ex.nil ⟨?_, rfl⟩)
  · have e2 : nD (gotL (fst1 ns n1)) = (List.range 3).map fun j => D.int (backN (fst1 ns n1) j : Nat) := by
      unfold gotL
      show List.map _ (List.map _ _) = _
      rw [List.map_map]; rfl
    rw [e2]
    refine CL.map (α := Nat) (fun j => .int (j : Int)) (fun j => D.int (backN (fst1 ns n1) j : Nat)) (List.range 3) rfl rfl (by decide +kernel) rfl fun j hj => ?_
    refine Ev.ifexp (b := decide (j ∈ fst1 ns n1)) (Tr.compare (Ev.name rfl) (Ev.name rfl) cmp_inN) (fun hb => ?_) fun hb => ?_
    · have hm : j ∈ fst1 ns n1 := of_decide_eq_true hb
      have eb : backN (fst1 ns n1) j = (fst1 ns n1).idxOf j := if_pos hm
      rw [eb]
      exact Ev.meth (id := "list.index") (a := .list (nD (fst1 ns n1))) (ds := [.int (j : Int)]) (Ev.name rfl) (Evs.cons (Ev.name rfl) Evs.nil) (strne "list" (by decide)) PySem.F.plainAttrs_list PySem.F.slot_list_index PySem.F.type_list_index (c_indexN hm (by unfold fst1; omega))
    · have eb : backN (fst1 ns n1) j = 3 := if_neg (of_decide_eq_false hb)
      rw [eb]
      exact Ev.int
  · exact Has.cons rfl (Has.cons rfl (Has.cons rfl (Has.cons rfl (Has.cons rfl (Has.cons rfl (Has.cons rfl (Has.cons rfl (Has.cons rfl (Has.cons rfl (Has.cons rfl (Has.cons rfl (Has.cons rfl (Has.cons rfl (Has.cons rfl (Has.cons rfl Has.nil)))))))))))))))
end
end Mine
end
section
open PySem PySem.W PyProof.Rows PySem.Builtin.Str PySem.Builtin
namespace Mine
theorem found_ok {ns : List Int} {p : List Nat} (hp : p ∈ foundL (RL ns)) : p.length = 3 ∧ ∀ i, i < 3 → p.getD i 0 < 4 := by
  obtain ⟨a, b⟩ := (stab_found (ords_len ns)).mp hp
  exact ⟨a, b.fl⟩
theorem nD_map (n : Nat) (f : Nat → Nat) : nD ((List.range n).map f) = (List.range n).map fun i => D.int (f i : Nat) := by
  show List.map _ (List.map _ _) = _
  rw [List.map_map]; rfl
noncomputable def VL7 (so : Obj) (ns : List Int) (n1 n2 : Nat) : List (Str × D) := ("stops", .list (nD (posL (st2 ns n2)))) :: ("starts", .list (nD (posL (st1 ns n1)))) :: VL5 so ns n1 n2
section
variable {w : World} {base : Heap} {k : Nat}
theorem ints_of (f : List Nat → Nat) (l : List (List Nat)) : (l.map fun p => ((f p : Nat) : Int)).map D.int = l.map fun p => D.int (f p : Nat) := by rw [List.map_map]; rfl
theorem law_7 {L : Addr} {so : Obj} {ns : List Int} {n1 n2 : Nat} {R : D → Prop} (G : Gl w base) (E : Ends ns n1 n2) :
    Ex P0 w base (k + 5) (callEnvC (fnData P0 38 181) L 181) (bindable (fnData P0 38 181).scope.names) (VL6 so ns n1 n2) [] (((bodyOf 38 181).drop 30).take 5) (fun V' O' => Has V' (VL7 so ns n1 n2) ∧ O' = []) R := by
  have hz := sizeLine_eq
  have hR := ranks_ok (ords_len ns)
  have T := E.told
  have hf := found_len ns
  have l1 : (fst1 ns n1).length = 3 := mates_len (st1 ns n1).held
  have l2 : (snd2 ns n2).length = 3 := mates_len (st2 ns n2).held
  have g1 : ∀ i, i < 3 → (gotL (fst1 ns n1)).getD i 0 < 4 := fun i hi => by rw [got_at hi]; exact back_le l1 i
  have g2 : ∀ i, i < 3 → (gotL (snd2 ns n2)).getD i 0 < 4 := fun i hi => by rw [got_at hi]; exact back_le l2 i
  have m2 : ∀ i, i < 3 → (snd2 ns n2).getD i 0 < 4 := fun i hi => by
    show (mates3 (st2 ns n2).held).getD i 0 < 4
    rw [mates_at hi]; exact mate_le E.inv2.ho i
  have q1 : (gotL (fst1 ns n1)).length = 3 := by simp [gotL]
  have q2 : (gotL (snd2 ns n2)).length = 3 := by simp [gotL]
  refine Ex.ifF (N1 := fun V' O' => V' = _ ∧ O' = _) (Tr.compare (a := .list (nD ((List.range 3).map fun i => rk (RL ns) i ((gotL (fst1 ns n1)).getD i 0)))) (b := .list (nD ((List.range 3).map fun i => rk (RL ns) i ((gotL (fst1 ns n1)).getD i 0)))) ?_ ?_ (cmp_neN _)) (Ex.nil ⟨rfl, rfl⟩) fun V' O' hh => ?_
  · rw [nD_map]
    refine Ev.comp [("ranks", .list (nnD (RL ns))), ("got", .list (nD (gotL (fst1 ns n1))))] ⟨rfl, rfl, rfl, rfl, trivial⟩ (EvIt.range G.b_range (by with_unfolding_all rfl) (n := 3) Ev.int) (fun s C hk => ?_) (by simp; omega)
    refine CL.map (α := Nat) (fun i => .int (i : Int)) (fun i => D.int (rk (RL ns) i ((gotL (fst1 ns n1)).getD i 0) : Nat)) (List.range 3) rfl rfl (by decide +kernel) rfl fun i hi => ?_
    have hi := List.mem_range.mp hi
    exact Ev.rk (i := i) (j := (gotL (fst1 ns n1)).getD i 0) hR (Ev.name rfl) (Ev.name rfl) (Ev.sub (a := .list (nD (gotL (fst1 ns n1)))) (b := .int (i : Int)) (Ev.name rfl) (Ev.name rfl) (g_listN (get_nD (by omega)))) (by omega) (g1 i hi)
  · rw [nD_map]
    refine Ev.comp [("ranks", .list (nnD (RL ns))), ("found", .list (nnD (foundL (RL ns))))] ⟨rfl, rfl, rfl, rfl, trivial⟩ (EvIt.range G.b_range (by with_unfolding_all rfl) (n := 3) Ev.int) (fun s C hk => ?_) (by simp; omega)
    have G := G.kp hk
    refine CL.map (α := Nat) (fun i => .int (i : Int)) (fun i => D.int (rk (RL ns) i ((gotL (fst1 ns n1)).getD i 0) : Nat)) (List.range 3) rfl rfl (by decide +kernel) rfl fun i hi => ?_
    have hi := List.mem_range.mp hi
    obtain ⟨⟨p0, hp0, e0⟩, lo⟩ := T.least i hi
    have cm := c_min (prog := P0) (w := w) (base := s.heap) (k := k + 5) (ns := (foundL (RL ns)).map fun p => ((rk (RL ns) i (p.getD i 0) : Nat) : Int)) (m := ((rk (RL ns) i ((gotL (fst1 ns n1)).getD i 0) : Nat) : Int)) (List.mem_map.mpr ⟨p0, hp0, by show ((rk (RL ns) i (p0.getD i 0) : Nat) : Int) = _; rw [e0]; rfl⟩) (fun a ha => by
      obtain ⟨p, hp, rfl⟩ := List.mem_map.mp ha
      have h : rk (RL ns) i ((gotL (fst1 ns n1)).getD i 0) ≤ rk (RL ns) i (p.getD i 0) := lo p hp
      omega)
    rw [ints_of] at cm
    refine Ev.callB G.b_min (by with_unfolding_all rfl) (Evs.cons ?_ Evs.nil) cm
    refine Ev.comp [("ranks", .list (nnD (RL ns))), ("k", .int (i : Int))] ⟨rfl, rfl, rfl, rfl, trivial⟩ (EvIt.list (Ev.name rfl)) (fun s2 C2 hk2 => ?_) (by rw [List.length_map]; omega)
    refine CL.map (α := List Nat) (fun p => .list (nD p)) (fun p => D.int (rk (RL ns) i (p.getD i 0) : Nat)) (foundL (RL ns)) rfl rfl (by decide +kernel) rfl fun p hp => ?_
    obtain ⟨pl, p4⟩ := found_ok hp
    exact Ev.rk (i := i) (j := p.getD i 0) hR (Ev.name rfl) (Ev.name rfl) (Ev.sub (a := .list (nD p)) (b := .int (i : Int)) (Ev.name rfl) (Ev.name rfl) (g_listN (get_nD (by omega)))) (by omega) (p4 i hi)
  obtain ⟨rfl, rfl⟩ := hh
  refine Ex.ifF (N1 := fun V' O' => V' = _ ∧ O' = _) (Tr.compare (a := .list (nD ((List.range 3).map fun i => rk (RL ns) i ((snd2 ns n2).getD i 0)))) (b := .list (nD ((List.range 3).map fun i => rk (RL ns) i ((snd2 ns n2).getD i 0)))) ?_ ?_ (cmp_neN _)) (Ex.nil ⟨rfl, rfl⟩) fun V' O' hh => ?_
  · rw [nD_map]
    refine Ev.comp [("ranks", .list (nnD (RL ns))), ("second", .list (nD (snd2 ns n2)))] ⟨rfl, rfl, rfl, rfl, trivial⟩ (EvIt.range G.b_range (by with_unfolding_all rfl) (n := 3) Ev.int) (fun s C hk => ?_) (by simp; omega)
    refine CL.map (α := Nat) (fun i => .int (i : Int)) (fun i => D.int (rk (RL ns) i ((snd2 ns n2).getD i 0) : Nat)) (List.range 3) rfl rfl (by decide +kernel) rfl fun i hi => ?_
    have hi := List.mem_range.mp hi
    exact Ev.rk (i := i) (j := (snd2 ns n2).getD i 0) hR (Ev.name rfl) (Ev.name rfl) (Ev.sub (a := .list (nD (snd2 ns n2))) (b := .int (i : Int)) (Ev.name rfl) (Ev.name rfl) (g_listN (get_nD (by omega)))) (by omega) (m2 i hi)
  · rw [nD_map]
    refine Ev.comp [("ranks", .list (nnD (RL ns))), ("found", .list (nnD (foundL (RL ns))))] ⟨rfl, rfl, rfl, rfl, trivial⟩ (EvIt.range G.b_range (by with_unfolding_all rfl) (n := 3) Ev.int) (fun s C hk => ?_) (by simp; omega)
    have G := G.kp hk
    refine CL.map (α := Nat) (fun i => .int (i : Int)) (fun i => D.int (rk (RL ns) i ((snd2 ns n2).getD i 0) : Nat)) (List.range 3) rfl rfl (by decide +kernel) rfl fun i hi => ?_
    have hi := List.mem_range.mp hi
    obtain ⟨⟨p0, hp0, e0⟩, lo⟩ := T.most i hi
    have cm := c_max (prog := P0) (w := w) (base := s.heap) (k := k + 5) (ns := (foundL (RL ns)).map fun p => ((rk (RL ns) i (p.getD i 0) : Nat) : Int)) (m := ((rk (RL ns) i ((snd2 ns n2).getD i 0) : Nat) : Int)) (List.mem_map.mpr ⟨p0, hp0, by show ((rk (RL ns) i (p0.getD i 0) : Nat) : Int) = _; rw [e0]; rfl⟩) (fun a ha => by
      obtain ⟨p, hp, rfl⟩ := List.mem_map.mp ha
      have h : rk (RL ns) i (p.getD i 0) ≤ rk (RL ns) i ((snd2 ns n2).getD i 0) := lo p hp
      omega)
    rw [ints_of] at cm
    refine Ev.callB G.b_max (by with_unfolding_all rfl) (Evs.cons ?_ Evs.nil) cm
    refine Ev.comp [("ranks", .list (nnD (RL ns))), ("k", .int (i : Int))] ⟨rfl, rfl, rfl, rfl, trivial⟩ (EvIt.list (Ev.name rfl)) (fun s2 C2 hk2 => ?_) (by rw [List.length_map]; omega)
    refine CL.map (α := List Nat) (fun p => .list (nD p)) (fun p => D.int (rk (RL ns) i (p.getD i 0) : Nat)) (foundL (RL ns)) rfl rfl (by decide +kernel) rfl fun p hp => ?_
    obtain ⟨pl, p4⟩ := found_ok hp
    exact Ev.rk (i := i) (j := p.getD i 0) hR (Ev.name rfl) (Ev.name rfl) (Ev.sub (a := .list (nD p)) (b := .int (i : Int)) (Ev.name rfl) (Ev.name rfl) (g_listN (get_nD (by omega)))) (by omega) (p4 i hi)
  obtain ⟨rfl, rfl⟩ := hh
  refine Ex.step (Step.assign (d := .list (nD (gotL (snd2 ns n2)))) (Ev.comp [("second", .list (nD (snd2 ns n2)))] ⟨rfl, rfl, trivial⟩ (EvIt.range G.b_range (by with_unfolding_all rfl) (n := 3) Ev.int) (fun s C hk => ?_) (by rw [List.length_map]; omega)) (by decide +kernel) rfl) ?_
  · unfold gotL
    rw [nD_map]
    refine CL.map (α := Nat) (fun j => .int (j : Int)) (fun j => D.int (backN (snd2 ns n2) j : Nat)) (List.range 3) rfl rfl (by decide +kernel) rfl fun j hj => ?_
    refine Ev.ifexp (b := decide (j ∈ snd2 ns n2)) (Tr.compare (Ev.name rfl) (Ev.name rfl) cmp_inN) (fun hb => ?_) fun hb => ?_
    · have hm : j ∈ snd2 ns n2 := of_decide_eq_true hb
      have eb : backN (snd2 ns n2) j = (snd2 ns n2).idxOf j := if_pos hm
      rw [eb]
      exact Ev.meth (id := "list.index") (a := .list (nD (snd2 ns n2))) (ds := [.int (j : Int)]) (Ev.name rfl) (Evs.cons (Ev.name rfl) Evs.nil) (strne "list" (by decide)) PySem.F.plainAttrs_list PySem.F.slot_list_index PySem.F.type_list_index (c_indexN hm (by omega))
    · have eb : backN (snd2 ns n2) j = 3 := if_neg (of_decide_eq_false hb)
      rw [eb]
      exact Ev.int
  refine Ex.step (Step.assignComp (out := nD (posL (st1 ns n1))) [("ranks", .list (nnD (RL ns))), ("got", .list (nD (gotL (fst1 ns n1))))] ⟨rfl, rfl, rfl, rfl, trivial⟩ (EvIt.range G.b_range (by with_unfolding_all rfl) (n := 3) Ev.int) (fun s C hk => ?_) (by decide +kernel) rfl (by rw [List.length_map]; simp [posL]; omega)) ?_
  · unfold posL
    rw [nD_map]
    refine CL.map (α := Nat) (fun i => .int (i : Int)) (fun i => D.int ((st1 ns n1).pos.getD i 0 : Nat)) (List.range 3) rfl rfl (by decide +kernel) rfl fun i hi => ?_
    have hi := List.mem_range.mp hi
    have ep : (st1 ns n1).pos.getD i 0 = rk (RL ns) i ((gotL (fst1 ns n1)).getD i 0) + if (gotL (fst1 ns n1)).getD i 0 < 3 then 1 else 0 := T.pos1 i hi
    rw [ep]
    have eg := get_nD (l := gotL (fst1 ns n1)) (i := i) (by omega)
    refine Ev.binop (a := .int (rk (RL ns) i ((gotL (fst1 ns n1)).getD i 0) : Nat)) (b := .int ((if (gotL (fst1 ns n1)).getD i 0 < 3 then 1 else 0 : Nat) : Int)) (Ev.rk (i := i) (j := (gotL (fst1 ns n1)).getD i 0) hR (Ev.name rfl) (Ev.name rfl) (Ev.sub (a := .list (nD (gotL (fst1 ns n1)))) (b := .int (i : Int)) (Ev.name rfl) (Ev.name rfl) (g_listN eg)) (by omega) (g1 i hi)) ?_ op_addN
    refine Ev.ifexp (b := decide ((gotL (fst1 ns n1)).getD i 0 < 3)) (Tr.compare (a := .int ((gotL (fst1 ns n1)).getD i 0 : Nat)) (b := .int ((3 : Nat) : Int)) (Ev.sub (a := .list (nD (gotL (fst1 ns n1)))) (b := .int (i : Int)) (Ev.name rfl) (Ev.name rfl) (g_listN eg)) Ev.int cmp_ltN) (fun hb => ?_) fun hb => ?_
    · rw [if_pos (of_decide_eq_true hb)]; exact Ev.int
    · rw [if_neg (of_decide_eq_false hb)]; exact Ev.int
  refine Ex.step (Step.assignComp (out := nD (posL (st2 ns n2))) [("ranks", .list (nnD (RL ns))), ("gave", .list (nD (gotL (snd2 ns n2))))] ⟨rfl, rfl, rfl, rfl, trivial⟩ (EvIt.range G.b_range (by with_unfolding_all rfl) (n := 3) Ev.int) (fun s C hk => ?_) (by decide +kernel) rfl (by rw [List.length_map]; simp [posL]; omega)) (Ex.nil ⟨?_, rfl⟩)
  · unfold posL
    rw [nD_map]
    refine CL.map (α := Nat) (fun i => .int (i : Int)) (fun i => D.int ((st2 ns n2).pos.getD i 0 : Nat)) (List.range 3) rfl rfl (by decide +kernel) rfl fun i hi => ?_
    have hi := List.mem_range.mp hi
    have ep : (st2 ns n2).pos.getD i 0 = rk (RL ns) (3 + i) ((gotL (snd2 ns n2)).getD i 0) + if (gotL (snd2 ns n2)).getD i 0 < 3 then 1 else 0 := T.pos2 i hi
    rw [ep]
    have eg := get_nD (l := gotL (snd2 ns n2)) (i := i) (by omega)
    refine Ev.binop (a := .int (rk (RL ns) (3 + i) ((gotL (snd2 ns n2)).getD i 0) : Nat)) (b := .int ((if (gotL (snd2 ns n2)).getD i 0 < 3 then 1 else 0 : Nat) : Int)) (Ev.rk (i := 3 + i) (j := (gotL (snd2 ns n2)).getD i 0) hR (Ev.name rfl) (Ev.binop (a := .int 3) (b := .int (i : Int)) Ev.int (Ev.name rfl) (op_addN (a := 3))) (Ev.sub (a := .list (nD (gotL (snd2 ns n2)))) (b := .int (i : Int)) (Ev.name rfl) (Ev.name rfl) (g_listN eg)) (by omega) (g2 i hi)) ?_ op_addN
    refine Ev.ifexp (b := decide ((gotL (snd2 ns n2)).getD i 0 < 3)) (Tr.compare (a := .int ((gotL (snd2 ns n2)).getD i 0 : Nat)) (b := .int ((3 : Nat) : Int)) (Ev.sub (a := .list (nD (gotL (snd2 ns n2)))) (b := .int (i : Int)) (Ev.name rfl) (Ev.name rfl) (g_listN eg)) Ev.int cmp_ltN) (fun hb => ?_) fun hb => ?_
    · rw [if_pos (of_decide_eq_true hb)]; exact Ev.int
    · rw [if_neg (of_decide_eq_false hb)]; exact Ev.int
  · exact Has.cons rfl (Has.cons rfl (Has.cons rfl (Has.cons rfl (Has.cons rfl (Has.cons rfl (Has.cons rfl (Has.cons rfl (Has.cons rfl (Has.cons rfl (Has.cons rfl (Has.cons rfl (Has.cons rfl (Has.cons rfl (Has.cons rfl Has.nil))))))))))))))
end
end Mine
end
section
open PySem PySem.W PyProof.Rows PySem.Builtin.Str PySem.Builtin
namespace Mine
noncomputable def restS (ns : List Int) (n1 n2 i : Nat) : List Nat := if i < 3 then rest (octL ns) ((ordsL ns).take 3) i ((st1 ns n1).pos.getD i 0) else rest (turnO (octL ns)) ((ordsL ns).drop 3) (i - 3) ((st2 ns n2).pos.getD (i - 3) 0)
noncomputable def lastD (ns : List Int) (n1 n2 : Nat) : List D := (List.range 6).map fun i => .tup [.str (S (figL ((octL ns).getD i 0))), .str (S (restS ns n1 n2 i))]
theorem last_is (ns : List Int) (n1 n2 : Nat) : ((stateD (octL ns) ((ordsL ns).take 3) (st1 ns n1).pos).map fun p => D.tup [.str p.1, p.2]) ++ ((stateD (turnO (octL ns)) ((ordsL ns).drop 3) (st2 ns n2).pos).map fun p => D.tup [.str p.1, p.2]) = lastD ns n1 n2 := by
  have hl := (oct_ok ns).len
  have t0 := turnO_at hl (i := 0) (by decide)
  have t1 := turnO_at hl (i := 1) (by decide)
  have t2 := turnO_at hl (i := 2) (by decide)
  unfold stateD
  rw [List.map_map, List.map_map]
  show [D.tup [.str (S (figL ((octL ns).getD 0 0))), _], D.tup [.str (S (figL ((octL ns).getD 1 0))), _], D.tup [.str (S (figL ((octL ns).getD 2 0))), _],
    D.tup [.str (S (figL ((turnO (octL ns)).getD 0 0))), _], D.tup [.str (S (figL ((turnO (octL ns)).getD 1 0))), _], D.tup [.str (S (figL ((turnO (octL ns)).getD 2 0))), _]] = _
  rw [t0, t1, t2]
  rfl
theorem last_alike (ns : List Int) (n1 n2 : Nat) : Alike 2 (.list (lastD ns n1 n2)) (.list (lastD ns n1 n2)) true := alike_self fun d hd => by
  obtain ⟨i, _, rfl⟩ := List.mem_map.mp hd
  have := AlikeAll.cons (n := 0) (alike_str (x := S (figL ((octL ns).getD i 0)))) (AlikeAll.cons (alike_str (x := S (restS ns n1 n2 i))) .nil)
  exact .tup this
theorem sum3 (f : Nat → Nat) : ((((List.range 3).map f).map fun n : Nat => (n : Int))).sum = ((f 0 + f 1 + f 2 : Nat) : Int) := by
  show (f 0 : Int) + ((f 1 : Int) + ((f 2 : Int) + 0)) = _
  omega
noncomputable def rowS (ns : List Int) (n1 n2 i : Nat) : List (List Nat) := if i < 3 then rowW (wW (octL ns)) i ((((ordsL ns).take 3).getD i []).drop ((st1 ns n1).pos.getD i 0)) else rowW (wW (turnO (octL ns))) (i - 3) ((((ordsL ns).drop 3).getD (i - 3) []).drop ((st2 ns n2).pos.getD (i - 3) 0))
theorem rowS_join (ns : List Int) (n1 n2 i : Nat) : joinL 39 (rowS ns n1 n2 i) = restS ns n1 n2 i := by
  unfold rowS restS rest
  split <;> rfl
theorem rows_are (ns : List Int) (n1 n2 : Nat) : (((List.range 3).map fun i => D.list (sD (rowW (wW (octL ns)) i (((ordsL ns).getD i []).drop ((posL (st1 ns n1)).getD i 0))))) ++ (List.range 3).map fun i => D.list (sD (rowW (wW (turnO (octL ns))) i (((turnL (ordsL ns)).getD i []).drop ((posL (st2 ns n2)).getD i 0))))) = (List.range 6).map fun i => D.list (sD (rowS ns n1 n2 i)) := by
  have e : ((List.range 6).map fun i => D.list (sD (rowS ns n1 n2 i))) = ((List.range 3).map fun i => D.list (sD (rowS ns n1 n2 i))) ++ (List.range 3).map fun i => D.list (sD (rowS ns n1 n2 (3 + i))) := rfl
  rw [e]
  refine congr (congrArg HAppend.hAppend ?_) ?_
  · refine List.map_congr_left fun i hi => ?_
    have hi := List.mem_range.mp hi
    unfold rowS posL
    rw [if_pos hi, take_at hi, row_at hi]
  · refine List.map_congr_left fun i hi => ?_
    have hi := List.mem_range.mp hi
    unfold rowS posL turnL
    rw [if_neg (by omega), show 3 + i - 3 = i by omega, drop_at, row_at hi, turn_at (ords_len ns) hi]
theorem rowS_ok (ns : List Int) (n1 n2 : Nat) {i : Nat} (hi : i < 6) : (rowS ns n1 n2 i).length + (rowS ns n1 n2 i).flatten.length ≤ 44 := by
  have hO := oct_ok ns
  have key : ∀ {O : List Nat} {A : List (List Nat)} {k p : Nat}, OctOk O → OrdOk A → k < 3 → (rowW (wW O) k ((A.getD k []).drop p)).length + (rowW (wW O) k ((A.getD k []).drop p)).flatten.length ≤ 44 := fun {O A k p} hO hA hk => by
    have l2 := flat_short (ws := rowW (wW O) k ((A.getD k []).drop p)) fun a ha => by have := (row_ok hO hk a ha).2.2.2; omega
    have l3 : (rowW (wW O) k ((A.getD k []).drop p)).length ≤ 4 := by
      unfold rowW
      rw [List.length_map, List.length_drop, perm_len (hA k hk)]; omega
    omega
  unfold rowS
  split
  · rename_i h; exact key hO (ords_ask ns) h
  · exact key (turn_ok hO) (ords_asked ns) (by omega)
section
variable {w : World} {base : Heap} {k : Nat}
theorem law_8 {L : Addr} {so : Obj} {ns : List Int} {n1 n2 : Nat} (G : Gl w base) (E : Ends ns n1 n2) :
    Ex P0 w base (k + 5) (callEnvC (fnData P0 38 181) L 181) (bindable (fnData P0 38 181).scope.names) (VL7 so ns n1 n2) [] ((bodyOf 38 181).drop 35) (fun _ _ => False) (fun d => d = .bool true) := by
  have hz := sizeLine_eq
  have hO := oct_ok ns
  have hT := turn_ok hO
  have ol := ords_len ns
  have hA := ords_ask ns
  have hP := ords_asked ns
  have wl := wW_len hO
  have wt := wW_len hT
  have cs : ∀ s : OSt, OpL P0 w base (k + 5) (fun vs => call (.builtin "sum") vs) [.list (nD (posL s))] (.int ((s.pos.getD 0 0 + s.pos.getD 1 0 + s.pos.getD 2 0 : Nat) : Int)) := fun s => by
    have h := c_sum (prog := P0) (w := w) (base := base) (k := k + 5) (ns := (posL s).map fun n : Nat => (n : Int))
    have e : ((posL s).map fun n : Nat => (n : Int)).map D.int = nD (posL s) := by rw [List.map_map]; rfl
    rw [e] at h
    unfold posL at h ⊢
    rwa [sum3] at h
  have cs1 := cs (st1 ns n1)
  have cs2 := cs (st2 ns n2)
  rw [E.inv1.sum] at cs1
  rw [E.inv2.sum] at cs2
  have cn : ∀ z : Int, Op2 P0 w base (k + 5) (compareOp .NotEq) (.int z) (.int z) (.bool false) := fun z => by
    have := cmp_ne (prog := P0) (w := w) (base := base) (k := k + 5) (a := z) (b := z)
    rwa [bne_self_eq_false] at this
  refine Ex.ifF (N1 := fun V' O' => V' = _ ∧ O' = _) (Tr.of (Tr.or (a := false) (b := false) (Tr.compare (a := .int (n1 : Int)) (b := .int (n1 : Int)) (Ev.name rfl) (Ev.callB G.b_sum (by with_unfolding_all rfl) (Evs.cons (Ev.name rfl) Evs.nil) cs1) (cn _)) fun _ =>
    Tr.or1 (Tr.compare (a := .int (n2 : Int)) (b := .int (n2 : Int)) (Ev.name rfl) (Ev.callB G.b_sum (by with_unfolding_all rfl) (Evs.cons (Ev.name rfl) Evs.nil) cs2) (cn _))) rfl) (Ex.nil ⟨rfl, rfl⟩) fun V' O' hh => ?_
  obtain ⟨rfl, rfl⟩ := hh
  have p1 := fun i (hi : i < 3) => pos_ok E.ok1 hA hi
  have p2 := fun i (hi : i < 3) => pos_ok E.ok2 hP hi
  refine Ex.step (Step.assign (d := .list (((List.range 3).map fun i => D.list (sD (rowW (wW (octL ns)) i (((ordsL ns).getD i []).drop ((posL (st1 ns n1)).getD i 0))))) ++ (List.range 3).map fun i => D.list (sD (rowW (wW (turnO (octL ns))) i (((turnL (ordsL ns)).getD i []).drop ((posL (st2 ns n2)).getD i 0)))))) ?_ (by decide +kernel) rfl) ?_
  · refine Ev.binop (Ev.callF G.n_law_rows (by with_unfolding_all rfl) G.d_law_rows.fn (Evs.cons (Ev.name rfl) (Evs.cons (Ev.name rfl) (Evs.cons (Ev.name rfl) Evs.nil))) (def_rows (k := k + 4) (W := wW (octL ns)) (Os := ordsL ns) (st := posL (st1 ns n1)) G wl (by omega) (by omega) (by simp [posL]) fun i hi => by
        have := perm_len (hA i hi)
        rw [take_at hi] at this
        have := p1 i hi
        omega))
      (Ev.callF G.n_law_rows (by with_unfolding_all rfl) G.d_law_rows.fn (Evs.cons ?_ (Evs.cons (Ev.name rfl) (Evs.cons (Ev.name rfl) Evs.nil))) (def_rows (k := k + 4) (W := wW (turnO (octL ns))) (Os := turnL (ordsL ns)) (st := posL (st2 ns n2)) G wt (by simp [turnL, ol]) (by simp [turnL, ol]) (by simp [posL]) fun i hi => by
        have := perm_len (hP i hi)
        rw [drop_at] at this
        have := p2 i hi
        unfold turnL
        rw [turn_at ol hi]
        omega)) (op_addLs (by simp))
    rw [turn_sD]
    exact Ev.binop (a := .list ((sD (wW (octL ns))).drop 3)) (b := .list ((sD (wW (octL ns))).take 3)) (Ev.sliceF (a := 3) (Ev.name rfl) Ev.int (by simp [wl]) (by simp [wl])) (Ev.sliceTo (a := 3) (Ev.name rfl) Ev.int (by simp [wl])) (op_addLs (by simp [wl]))
  refine Ex.ret (d := .bool true) (Ev.compare (a := .list (lastD ns n1 n2)) (b := .list (lastD ns n1 n2)) ?_ ?_ (cmp_eqL (n := 1) (last_alike ns n1 n2) (by decide))) rfl
  · rw [← last_is]
    exact Ev.binop (a := .list ((stateD (octL ns) ((ordsL ns).take 3) (st1 ns n1).pos).map fun p => D.tup [.str p.1, p.2])) (b := .list ((stateD (turnO (octL ns)) ((ordsL ns).drop 3) (st2 ns n2).pos).map fun p => D.tup [.str p.1, p.2])) (Ev.listItems G.b_list (by with_unfolding_all rfl) (Ev.name rfl) (by simp [stateD]; omega)) (Ev.listItems G.b_list (by with_unfolding_all rfl) (Ev.name rfl) (by simp [stateD]; omega)) (op_addLs (by simp [stateD]))
  · rw [rows_are]
    refine Ev.comp [("names", .list (sD ((octL ns).map figL))), ("rests", .list ((List.range 6).map fun i => D.list (sD (rowS ns n1 n2 i))))] ⟨rfl, rfl, rfl, rfl, trivial⟩ (EvIt.range G.b_range (by with_unfolding_all rfl) (n := 6) Ev.int) (fun s C hk => ?_) (by unfold lastD; simp; omega)
    unfold lastD
    refine CL.map (α := Nat) (fun i => .int (i : Int)) (fun i => D.tup [.str (S (figL ((octL ns).getD i 0))), .str (S (restS ns n1 n2 i))]) (List.range 6) rfl rfl (by decide +kernel) rfl fun i hi => ?_
    have hi := List.mem_range.mp hi
    rw [← rowS_join]
    refine Ev.tuple (Evs.cons (Ev.sub (a := .list (sD ((octL ns).map figL))) (b := .int (i : Int)) (Ev.name rfl) (Ev.name rfl) (g_listN (get_fig hO hi))) (Evs.cons ?_ Evs.nil)) (by show 2 ≤ sizeLine; omega)
    exact Ev.meth (id := "str.join") (a := .str (S [39])) (ds := [.list (sD (rowS ns n1 n2 i))]) (Ev.strS (by decide +kernel)) (Evs.cons (Ev.sub (a := .list ((List.range 6).map fun i => D.list (sD (rowS ns n1 n2 i)))) (b := .int (i : Int)) (Ev.name rfl) (Ev.name rfl) (g_listN (by rw [List.getElem?_map, List.getElem?_range hi]; rfl))) Evs.nil) (strne "str" (by decide)) PySem.F.plainAttrs_str PySem.F.slot_str_join PySem.F.type_str_join (c_joinS (by have := rowS_ok ns n1 n2 hi; omega))
end
end Mine
end
section
open PySem PySem.W PyProof.Rows PySem.Builtin.Str PySem.Builtin
namespace Mine
theorem drop_split {α : Type} (l : List α) (a b : Nat) : l.drop a = (l.drop a).take b ++ l.drop (a + b) := by
  rw [← List.drop_drop]; exact (List.take_append_drop b _).symm
section
variable {w : World} {base : Heap} {k : Nat}
/-- up to whom the offices paired -/
theorem law_pre {L : Addr} {so : Obj} {ns : List Int} {n1 n2 : Nat} {R : D → Prop} (G : Gl w base) (hs : ScrOk so ns) (E : Ends ns n1 n2) :
    Ex P0 w base (k + 5) (callEnvC (fnData P0 38 181) L 181) (bindable (fnData P0 38 181).scope.names) [("script", .obj so [])] []
      ((bodyOf 38 181).take 6 ++ (((bodyOf 38 181).drop 6).take 4 ++ (((bodyOf 38 181).drop 10).take 5 ++ (((bodyOf 38 181).drop 15).take 5 ++ ((bodyOf 38 181).drop 20).take 6)))) (fun V' O' => Has V' (VL5 so ns n1 n2) ∧ O' = []) R := by
  refine Ex.append (law_1 G hs) fun V1 O1 h1 => ?_
  obtain ⟨h1, rfl⟩ := h1
  refine Ex.append (Ex.weak (law_2 G) h1 fun _ _ l => l) fun V2 O2 h2 => ?_
  obtain ⟨h2, rfl⟩ := h2
  refine Ex.append (Ex.weak (law_3 G) h2 fun _ _ l => l) fun V3 O3 h3 => ?_
  obtain ⟨h3, rfl⟩ := h3
  refine Ex.append (Ex.weak (law_4 G) h3 fun _ _ l => l) fun V4 O4 h4 => ?_
  obtain ⟨h4, rfl⟩ := h4
  exact Ex.weak (law_5 G hs E) h4 fun _ _ l => l
theorem law_post {L : Addr} {so : Obj} {ns : List Int} {n1 n2 : Nat} (G : Gl w base) (E : Ends ns n1 n2) :
    Ex P0 w base (k + 5) (callEnvC (fnData P0 38 181) L 181) (bindable (fnData P0 38 181).scope.names) (VL5 so ns n1 n2) []
      (((bodyOf 38 181).drop 27).take 3 ++ (((bodyOf 38 181).drop 30).take 5 ++ (bodyOf 38 181).drop 35)) (fun _ _ => False) (fun d => d = .bool true) := by
  refine Ex.append (law_6 G E) fun V1 O1 h1 => ?_
  obtain ⟨h1, rfl⟩ := h1
  refine Ex.append (Ex.weak (law_7 G E) h1 fun _ _ l => l) fun V2 O2 h2 => ?_
  obtain ⟨h2, rfl⟩ := h2
  exact Ex.weak (law_8 G E) h2 fun _ _ l => l
theorem law_run {A : Around} {L : Addr} {X Y : Addr → Prop} {s : Shared} {Q : Flow → Shared → Prop} {E : Value → Shared → Prop} {so : Obj} {ns : List Int} (G : Gl w base) (hs : ScrOk so ns) (g : GA (k + 5) A) (hfr : A.frames = some [callEnvC (fnData P0 38 181) L 181])
    (F : Frm w base (callEnvC (fnData P0 38 181) L 181) (bindable (fnData P0 38 181).scope.names) [("script", .obj so [])] [] X Y s) (q : ∀ s', (∃ h tk, s' = { s with heap := h, toks := tk }) → Kp base s'.heap → Q (.ret (.bool true)) s') :
    wpAny (model P0 w) A (execs (bodyOf 38 181) (callEnvC (fnData P0 38 181) L 181)) Q E s := by
  obtain ⟨n1, n2, En⟩ := ends ns
  have hO := oct_ok ns
  have e6 : bodyOf 38 181 = (bodyOf 38 181).take 6 ++ (bodyOf 38 181).drop 6 := (List.take_append_drop 6 _).symm
  have e10 := drop_split (bodyOf 38 181) 6 4
  have e15 := drop_split (bodyOf 38 181) 10 5
  have e20 := drop_split (bodyOf 38 181) 15 5
  have e26 := drop_split (bodyOf 38 181) 20 6
  have e30 := drop_split (bodyOf 38 181) 27 3
  have e35 := drop_split (bodyOf 38 181) 30 5
  have whole : bodyOf 38 181 = ((bodyOf 38 181).take 6 ++ (((bodyOf 38 181).drop 6).take 4 ++ (((bodyOf 38 181).drop 10).take 5 ++ (((bodyOf 38 181).drop 15).take 5 ++ ((bodyOf 38 181).drop 20).take 6)))) ++ (bodyOf 38 181).drop 26 := by
    simp only [List.append_assoc]
    rw [← e26, ← e20, ← e15, ← e10, ← e6]
  have post : (bodyOf 38 181).drop 27 = ((bodyOf 38 181).drop 27).take 3 ++ (((bodyOf 38 181).drop 30).take 5 ++ (bodyOf 38 181).drop 35) := by rw [← e35, ← e30]
  have lp := law_post (k := k) (L := L) (so := so) G En
  rw [← post] at lp
  clear e6 e10 e15 e20 e26 e30 e35 post
  rw [whole]
  refine wpAny_execs_append ((law_pre (k := k) (R := fun _ => False) G hs En).out A X Y s _ E g F (fun V1 O1 X1 Y1 s1 n F1 t1 => ?_) fun d v X' Y' s' rd _ _ _ => rd.elim)
  obtain ⟨hV, rfl⟩ := n
  have F1 := F1.weak (O' := []) hV fun _ _ l => l
  obtain ⟨h1, tk1, e1⟩ := t1.same
  have lm := mates_len (st1 ns n1).held
  refine wpAny_execs_cons (wpAny_If (wpAny_isTrue_Compare1 (callF_raw G.n_law_refused (by with_unfolding_all rfl) G.d_law_refused.fn (Evs.cons (Ev.name rfl) (Evs.cons (Ev.name rfl) Evs.nil)) g F1.st fun vs s2 r2 k2 => ?_) ?_))
  · refine def_refused (k := k) (M := fst1 ns n1) G g hfr rfl (F1.ks k2) hO lm (fun j hj => by
      show (mates3 (st1 ns n1).held).getD j 0 ≤ 3
      rw [mates_at hj]
      exact mateOf_le En.ok1.ho j) r2 fun s3 mv => ?_
    obtain ⟨F3, t3⟩ := (F1.ks k2).mvd mv
    obtain ⟨h2, tk2, rfl, _⟩ := k2
    obtain ⟨h3, tk3, e3⟩ := mv.same
    refine (Ev.compare (a := .int ((3 : Nat) : Int)) (b := .list (nD (fst1 ns n1))) Ev.int (Ev.name rfl) cmp_inN : Ev P0 w base (k + 5) _ _ _ (.bool (decide (3 ∈ fst1 ns n1)))).out A X1 s3 _ E g F3.st fun u s4 ru k4 => ?_
    have F4 := F3.ks k4
    obtain ⟨h4, tk4, e4, _⟩ := k4
    have c := cmp_nebool (prog := P0) (w := w) (base := base) (k := k + 5) (a := decide (3 ∈ fst1 ns n1)) (b := decide (3 ∈ fst1 ns n1))
    rw [bne_self_eq_false] at c
    refine c.out A X1 s4 _ E _ u g F4.st.ok (.bool _) ru fun x s5 rx k5 => ?_
    have F5 := F4.ks k5
    obtain ⟨h5, tk5, e5, _⟩ := k5
    cases rx
    refine wpAny_truthy_bool ?_
    rw [if_neg Bool.false_ne_true]
    refine wpAny_execs_nil (lp.out A X1 Y1 s5 Q E g F5 (fun _ _ _ _ _ n => n.elim) fun d v X' Y' s' rd rv t kp => ?_)
    subst rd
    cases rv
    obtain ⟨h6, tk6, e6⟩ := t.same
    refine q s' ⟨h6, tk6, ?_⟩ kp
    rw [e6, e5, e4, e3, e1]
  · with_unfolding_all rfl
end
end Mine
end
section
open PySem PySem.W PyProof.Rows PySem.Builtin.Str PySem.Builtin
namespace Mine
/-! what the top has left, for whoever calls from it -/
structure YP (w : World) (h : Heap) : Prop where
  main : ∃ mg, h.Ns mainGlobals mg ∧ (∀ e ∈ fnTab, mg e.1 = some (.ref e.2.2)) ∧ ∀ e ∈ datTab, mg e.1 = some e.2
  fn : ∀ e ∈ fnTab, h.get? e.2.2 = some (fnObj P0 e.2.1 e.2.2) ∧ h.CodeRec (.ref (e.2.2 - 1)) e.1
  obj : ∀ e ∈ objTab, h.get? e.1 = some e.2
theorem YP.keeps {w : World} {h h' : Heap} (y : YP w h) (k : ∀ b o, h.get? b = some o → h'.get? b = some o) : YP w h' where
  main := let ⟨mg, n, a, b⟩ := y.main; ⟨mg, n.keeps k, a, b⟩
  fn := fun e he => let ⟨a, c, o, vs, t, d, e1, f, g⟩ := y.fn e he; ⟨k _ _ a, c, o, vs, t, d, k _ _ e1, f, g⟩
  obj := fun e he => k _ _ (y.obj e he)
theorem codeOk_rec {h : Heap} {a : Addr} {q : Str} (x : codeOk h a q = true) : h.CodeRec (.ref a) q := by
  unfold codeOk at x
  split at x
  · rename_i c d vs sl e
    split at x
    · rename_i v0 n t r e2
      have hq : n = q := by simpa using x
      refine ⟨a, _, vs, t, rfl, e, rfl, ?_⟩
      have : vs = (v0 :: .str n t :: r).toArray := by rw [← e2]
      rw [this, hq]; rfl
    · cases x
  · cases x
theorem map_same {α β : Type} {f g : α → β} : ∀ {l : List α}, l.map f = l.map g → ∀ a ∈ l, f a = g a
  | [], _, a, h => (List.not_mem_nil h).elim
  | b :: l, e, a, h => by
    simp only [List.map_cons, List.cons.injEq] at e
    rcases List.mem_cons.mp h with rfl | h
    · exact e.1
    · exact map_same e.2 a h
theorem yp_of {w : World} {s : Shared} (e : Yf s = Ya P0 w) : YP w s.heap := by
  unfold Yf Ya at e
  simp only [Prod.mk.injEq] at e
  obtain ⟨e1, e2, e3, e4⟩ := e
  have h2 := fun x hx => map_same e2 x hx
  have h3 := fun x hx => map_same e3 x hx
  have h4 := fun x hx => map_same e4 x hx
  simp only [Prod.mk.injEq] at h2
  exact ⟨⟨_, .of_isNs e1, fun x hx => (h2 x hx).1, h3⟩, fun x hx => ⟨(h2 x hx).2.1, codeOk_rec (h2 x hx).2.2⟩, h4⟩
/-! the defs themselves -/
noncomputable def fnFit (p : Program) (e : Str × Nat × Nat) : Bool := match p.main.body[e.2.1]? with
  | some (.FunctionDef nm _ _ _ _ _ scope _ _ _) => nm == e.1 && !scope.isCoroutine && !scope.isGenerator && decide (scope.kind = .function) && !(nm == ("__debug__" : Str))
  | _ => false
theorem fn_fit : fnTab.all (fnFit P0) = true := by decide +kernel
theorem fn_is {e : Str × Nat × Nat} (h : fnFit P0 e = true) : (fnData P0 e.2.1 e.2.2).qualname = e.1 ∧ (fnData P0 e.2.1 e.2.2).code = .ref (e.2.2 - 1) ∧ (fnData P0 e.2.1 e.2.2).closure = [] ∧ (fnData P0 e.2.1 e.2.2).globals = mainGlobals ∧ (fnData P0 e.2.1 e.2.2).builtins = builtinsNs ∧
    (fnData P0 e.2.1 e.2.2).scope.isCoroutine = false ∧ (fnData P0 e.2.1 e.2.2).scope.isGenerator = false ∧ (fnData P0 e.2.1 e.2.2).scope.kind = .function ∧ (e.1 == ("__debug__" : Str)) = false := by
  unfold fnFit at h
  unfold fnData
  split at h
  · rename_i nm args body d r t scope x y z hb
    simp only [Bool.and_eq_true, Bool.not_eq_true', beq_iff_eq, decide_eq_true_eq] at h
    obtain ⟨⟨⟨⟨h1, h2⟩, h3⟩, h4⟩, h5⟩ := h
    try rw [hb]
    exact ⟨h1, rfl, rfl, rfl, rfl, h2, h3, h4, by rw [← h1]; exact h5⟩
  · cases h
theorem dat_fit : datTab.all (fun e => !(e.1 == ("__debug__" : Str))) = true := by decide +kernel
section
variable {w : World} {h : Heap}
theorem glob_main {x : Str} {v : Value} {mg : Str → Option Value} (n : h.Ns mainGlobals mg) (e : mg x = some v) (hd : (x == ("__debug__" : Str)) = false) : GlobIs P0 w h x v := Seal.mk fun A env s Q E p hk hg hb hx kp q =>
  Calls.Name_function_global hk hx (Calls.loadGlobal_global (by rw [hg]; exact n.keeps kp) e q) hd
theorem glob_blt {x : Str} {v : Value} {mg mb : Str → Option Value} (n : h.Ns mainGlobals mg) (e : mg x = none) (m : h.Ns builtinsNs mb) (e2 : mb x = some v) (hd : (x == ("__debug__" : Str)) = false) : GlobIs P0 w h x v := Seal.mk fun A env s Q E p hk hg hb hx kp q =>
  Calls.Name_function_global hk hx (Calls.loadGlobal_builtin (by rw [hg]; exact n.keeps kp) e (by rw [hb]; exact m.keeps kp) e2 q) hd
noncomputable def freeN' (p : Program) (x : Str) : Bool := !startupNames.contains x && !(looseW p looseN).contains x && !((recsOf p).map (·.name)).contains x && !((litsOf p).map (·.1)).contains x && !((clssOf p (looseW p looseN)).map (·.name)).contains x && !(x == ("__debug__" : Str)) && !(x == ("__name__" : Str))
theorem blt_free : (bltF ++ bltT).all (freeN' (qv P0)) = true := by decide +kernel
theorem bltF_boot : ∀ x ∈ bltF, bootBuiltins x = some (.builtin x.toString) := by
  intro x hx
  simp only [bltF, List.mem_cons, List.not_mem_nil, or_false] at hx
  rcases hx with rfl | rfl | rfl | rfl | rfl | rfl | rfl <;> kernel_rfl
theorem bltT_boot : ∀ x ∈ bltT, bootBuiltins x = some (.type x.toString) := by
  intro x hx
  simp only [bltT, List.mem_cons, List.not_mem_nil, or_false] at hx
  rcases hx with rfl | rfl | rfl | rfl | rfl | rfl <;> kernel_rfl
end
end Mine
end
section
open PySem PySem.W PyProof.Rows PySem.Builtin.Str PySem.Builtin
namespace Mine
theorem no_imports : importsNone (qv P0) = true := by decide +kernel
section
variable {w : World} {h : Heap}
theorem free_of {x : Str} (f : freeN' (qv P0) x = true) : x ∉ startupNames ∧ x ∉ looseW (qv P0) looseN ∧ x ∉ (recsOf (qv P0)).map (·.name) ∧ x ∉ (litsOf (qv P0)).map (·.1) ∧ x ∉ (clssOf (qv P0) (looseW (qv P0) looseN)).map (·.name) ∧ (x == ("__debug__" : Str)) = false ∧ x ≠ "__name__" := by
  unfold freeN' at f
  simp only [Bool.and_eq_true, Bool.not_eq_true', List.contains_eq_mem, decide_eq_false_iff_not, beq_eq_false_iff_ne] at f
  obtain ⟨⟨⟨⟨⟨⟨a, b⟩, c⟩, d⟩, e⟩, f⟩, g⟩ := f
  exact ⟨a, b, c, d, e, by rw [beq_eq_false_iff_ne]; exact f, g⟩
theorem gl_of {mean : ExcName → Option Value} {mg mb : Str → Option Value} (T : Top (qv P0) (looseW (qv P0) looseN) mean mg mb h) (y : YP w h) : Gl w h := by
  obtain ⟨mg', n', a, b⟩ := y.main
  have em : mg' = mg := (Heap.Ns.eq_nsMap n').trans (Heap.Ns.eq_nsMap T.g).symm
  subst em
  have blt : ∀ x v, x ∈ bltF ++ bltT → bootBuiltins x = some v → GlobIs P0 w h x v := fun x v hx hv => by
    obtain ⟨f1, f2, f3, f4, f5, f6, f7⟩ := free_of (List.all_eq_true.mp blt_free x hx)
    exact glob_blt T.g (T.free x f1 f2 f3 f4 f5) T.b ((T.builtins x f7).trans hv) f6
  refine ⟨fun e he => ?_, fun e he => ?_, fun e he => y.obj e he, fun x hx => blt x _ (List.mem_append_left _ hx) (bltF_boot x hx), fun x hx => blt x _ (List.mem_append_right _ hx) (bltT_boot x hx), ?_⟩
  · obtain ⟨f1, f2, f3, f4, f5, f6, f7, f8, f9⟩ := fn_is (List.all_eq_true.mp fn_fit e he)
    obtain ⟨ho, hc⟩ := y.fn e he
    exact ⟨glob_main T.g (a e he) f9, ⟨⟨_, ho, rfl⟩, T.nolimit, by rw [f1, f2]; exact hc, f3, f4, f5, f6, f7, f8⟩, ho⟩
  · have := List.all_eq_true.mp dat_fit e he
    rw [Bool.not_eq_true'] at this
    exact glob_main T.g (b e he) this
  · obtain ⟨mm, hm, _⟩ := (T.seer no_imports).mods
    obtain ⟨o, _, _, e, _⟩ := hm
    exact ⟨o, e⟩
end
end Mine
end
section
open PySem PySem.W PyProof.Rows
namespace Mine
theorem law_called {w : World} {s₁ : Shared} {R : Result → Shared → Prop} {l : Addr} {vs : List Value} {ns : List Int} (G : Gl w s₁.heap) (hL : s₁.heap.IsList l vs.toArray) (hI : IntsAre vs ns) (hn : ns.length ≤ 1000)
    (q : ∀ s', (∃ h tk, s' = { s₁ with heap := h, toks := tk }) → Kp s₁.heap s'.heap → R (.ok (.ret (.bool true))) s') : codeAny (model P0 w) callerA (.call (.ref 181) ⟨[.ref l], []⟩) R s₁ := by
  obtain ⟨so, e, hc, n, hd⟩ := hL
  have hs : ScrOk so ns := ⟨hc, ⟨vs, n, hd, hI⟩, hn⟩
  have st : ∀ b, stat b = true → (∃ o, s₁.heap.get? b = some o) := fun b hb => by
    simp only [stat, Bool.or_eq_true, beq_iff_eq] at hb
    rcases hb with (rfl | rfl) | rfl
    · exact ⟨_, G.obj _ (List.getElem_mem (l := objTab) (n := 0) (by decide))⟩
    · exact ⟨_, G.obj _ (List.getElem_mem (l := objTab) (n := 1) (by decide))⟩
    · exact ⟨_, G.obj _ (List.getElem_mem (l := objTab) (n := 3) (by decide))⟩
  refine call_core (base := s₁.heap) (X := fun _ => False) (body := bodyOf 38 181) (ps := ["script"]) (ds := [.obj so []]) (by decide) G.d_law (by with_unfolding_all rfl) (fun vals h => ?_) (by decide +kernel) (by decide) rfl ⟨.refl _, fun _ z => z.elim, fun b hb => ⟨st b hb, fun z => z⟩⟩ (.cons (.obj (fun z => z) e (fun p hp => (List.not_mem_nil hp).elim)) .nil) fun Y s₂ yf le k1 F => ?_
  · obtain ⟨v, rfl⟩ := len1 h
    with_unfolding_all rfl
  · refine law_run (k := 0) G hs (GA.deeper (k := 5) (A := callerA) ⟨rfl, by decide, by decide⟩ _) (Around.frames_deeper rfl) F fun s' sm kp => q s' ?_ kp
    obtain ⟨h1, t1, rfl, _⟩ := k1
    obtain ⟨h2, t2, rfl⟩ := sm
    exact ⟨h2, t2, rfl⟩
theorem said_is : Challenge.rw_wo0011_01.wellSaid = true := by
  delta OpenLaw.wellSaid OpenRow.wellSaid OpenRow.partSaid looksOpen
  repeat refine look_both ?_ ?_
  all_goals decide +kernel
set_option maxHeartbeats 8000000 in
theorem holds_it : Challenge.rw_wo0011_01.Holds := by
  w_on
  refine holds_law (l := Challenge.rw_wo0011_01) said_is fun said => ?_
  refine holds_open (q := qv P0) (loose := looseN) (Xt := fun _ => true) (XP := fun _ _ => True) (Yf := Yf) (Ya := Ya P0) (YP := YP) (N := 40000) left_is (fun w s => yp_of) (fun w h h' y k => y.keeps k) (fun _ _ => trivial) (fun _ _ _ _ _ => trivial) (by rfl) (by rfl) (by rfl) (fun _ _ => recFacts_nil rfl) rfl (by assumption) (by decide +kernel) ⟨rfl, rfl, rfl, rfl, rfl, by decide +kernel⟩ ?hw ?hc
  case hw => w_witness2
  case hc =>
    intro w s₀ s₁ mg mb G Y fa o pm cd doc dV kV ho hd hcd hD hmg hg args vals as hpre hlay hrd hwl hlo
    have gl := gl_of G.T Y
    have e181 : fa = 181 := by
      obtain ⟨mg', n', a, _⟩ := Y.main
      have em : mg' = mg := (Heap.Ns.eq_nsMap n').trans (Heap.Ns.eq_nsMap G.T.g).symm
      have h2 := a ("law", 38, 181) (by decide)
      rw [em] at h2
      have h3 : mg "law" = some (.ref fa) := hmg
      rw [h2] at h3
      exact (Value.ref.inj (Option.some.inj h3)).symm
    subst e181
    clear ho hd hcd hD hmg
    wrow_args hpre hlay hrd hwl hlo
    refine enter_call (law_called gl (by assumption) (by assumption) (by omega) fun s' sm kp => GoodW.toG ⟨.inl ⟨_, .bool true, [], rfl, raisesW_false (by wrow_none_raised), .bool true, ?_, fun _ => ⟨List.nodup_nil, fun a ha => (List.not_mem_nil ha).elim⟩⟩, kp, ?_, ?_⟩)
    · wrow_post
    · obtain ⟨h, tk, rfl⟩ := sm; rfl
    · obtain ⟨h, tk, rfl⟩ := sm; exact hg
end Mine
end
theorem PySem.Challenge.cw_wo0011_01_holds : PySem.Challenge.rw_wo0011_01.Holds := by
  exact Mine.holds_it
