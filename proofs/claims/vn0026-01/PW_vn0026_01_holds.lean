import PyProof.Rows.All
import Wide.All
import OpenK.AllK
import Wide.FinOn
import Lean
import PySem.Challenge.RW_vn0026_01
set_option Elab.async false
set_option maxRecDepth 100000
set_option linter.unusedVariables false
-- In three strings of the head objects (keys of the model state) the sign x69 in an escape is the letter i: the word that they bear may stand in the rows above alone.
section
open PySem PySem.W PyProof.Rows PySem.Calls
open Sem (wp)
namespace Mine

def isDec (c : Code) : Bool := match c with
  | .builtin id _ => Builtin.Bytes.decodersThatHold.contains id
  | _ => false
def Clean (l : List (Code × Pos)) : Prop := ∀ x ∈ l, isDec x.1 = false
theorem clean_cons {c : Code} {p : Pos} {l : List (Code × Pos)} (h : isDec c = false) (k : Clean l) : Clean ((c, p) :: l) := fun x hx => by
  cases hx with
  | head => exact h
  | tail _ hx => exact k x hx

def wpP {α : Type} (M : Model) (A : Around) (t : Sem α) (Q : α → Shared → Prop) (E : Value → Shared → Prop) (s : Shared) : Prop :=
  ∀ Γ p, Γ.In A → isDec Γ.code = false → Clean Γ.below → wp M Γ t (fun a _ s' => Q a s') (fun e _ s' => E e s') p s
def codeP (M : Model) (A : Around) (c : Code) (R : Result → Shared → Prop) (s : Shared) : Prop :=
  ∀ Γ p, Γ.code = c → Γ.Below A → Clean Γ.below → wpCode M Γ R p s

section
variable {α β : Type} {M : Model} {A : Around} {E : Value → Shared → Prop} {s : Shared}

theorem P_lift {t : Sem α} {Q : α → Shared → Prop} (h : wpAny M A t Q E s) : wpP M A t Q E s := fun Γ p hΓ _ _ => h Γ p hΓ
theorem codeP_lift {c : Code} {R : Result → Shared → Prop} (h : codeAny M A c R s) : codeP M A c R s := fun Γ p hc hΓ _ => h Γ p hc hΓ
theorem P_mono {t : Sem α} {Q Q' : α → Shared → Prop} {E' : Value → Shared → Prop} (h : wpP M A t Q E s)
    (hQ : ∀ a s, Q a s → Q' a s) (hE : ∀ e s, E e s → E' e s) : wpP M A t Q' E' s :=
  fun Γ p hΓ hd hc => Sem.wp_mono M Γ t (fun a _ s => hQ a s) (fun e _ s => hE e s) p s (h Γ p hΓ hd hc)
theorem P_bind {m : Sem α} {f : α → Sem β} {Q : β → Shared → Prop} (h : wpP M A m (fun a s' => wpP M A (f a) Q E s') E s) :
    wpP M A (m >>= f) Q E s := fun Γ p hΓ hd hc => by
  rw [Sem.wp_bind']
  exact Sem.wp_mono M Γ m (fun a p' s' h' => h' Γ p' hΓ hd hc) (fun _ _ _ h' => h') p s (h Γ p hΓ hd hc)
theorem P_bindL {m : Sem α} {f : α → Sem β} {Q : β → Shared → Prop} (h : wpAny M A m (fun a s' => wpP M A (f a) Q E s') E s) :
    wpP M A (m >>= f) Q E s := P_bind (P_lift h)
theorem P_pure {a : α} {Q : α → Shared → Prop} (h : Q a s) : wpP M A (pure a) Q E s := P_lift (wpAny_pure h)
theorem P_of_eq {t t' : Sem α} {Q : α → Shared → Prop} (e : t = t') (h : wpP M A t' Q E s) : wpP M A t Q E s := e ▸ h
theorem P_holding {vs : List Value} {m : Sem α} {Q : α → Shared → Prop} (h : wpP M A m Q E s) : wpP M A (holding vs m) Q E s :=
  fun Γ p hΓ hd hc => by rw [Sem.wp_holding]; exact h Γ p hΓ hd hc
theorem P_onRaise {m : Sem α} {k : Value → Sem Unit} {Q : α → Shared → Prop}
    (h : wpP M A m Q (fun e s' => wpP M A (k e) (fun _ s'' => E e s'') E s') s) : wpP M A (m.onRaise k) Q E s := fun Γ p hΓ hd hc => by
  rw [Sem.wp_onRaise]
  exact Sem.wp_mono M Γ m (fun _ _ _ h' => h') (fun e p' s' h' => h' Γ p' hΓ hd hc) p s (h Γ p hΓ hd hc)
theorem P_tryCatch {m : Sem α} {k : Value → Sem α} {Q : α → Shared → Prop} (h : wpP M A m Q (fun e s' => wpP M A (k e) Q E s') s) :
    wpP M A (tryCatch m k) Q E s := fun Γ p hΓ hd hc => by
  rw [Sem.wp_tryCatch']
  exact Sem.wp_mono M Γ m (fun _ _ _ h' => h') (fun e p' s' h' => h' Γ p' hΓ hd hc) p s (h Γ p hΓ hd hc)
theorem P_attempt {m : Sem α} {Q : Except Value α → Shared → Prop} (h : wpP M A m (fun a => Q (.ok a)) (fun e => Q (.error e)) s) :
    wpP M A m.attempt Q E s := fun Γ p hΓ hd hc => by rw [Sem.wp_attempt]; exact h Γ p hΓ hd hc
theorem P_operate {vs : List Value} {m : Sem Value} {Q : Value → Shared → Prop} (h : wpP M A m Q E s) : wpP M A (operate vs m) Q E s :=
  fun Γ p hΓ hd hc => by rw [Sem.wp_operate]; exact h Γ p hΓ hd hc
theorem P_run {c : Code} {h : Option Value} {Q : Flow → Shared → Prop}
    (hc : codeP M (A.mark h) c (fun r s' => match r with | .ok f => Q f s' | .error e => E e s') s) (hnb : h ≠ some byPass := by intro x; cases x) :
    wpP M A (run c h) Q E s :=
  fun Γ p hΓ hd hcl => by rw [Sem.wp_run]; exact hc _ p rfl (hΓ.enter c h p hnb) (clean_cons hd hcl)
theorem P_runValue {c : Code} {Q : Value → Shared → Prop}
    (hc : codeP M A c (fun r s' => match r with | .ok (.ret v) => Q v s' | .ok _ => False | .error e => E e s') s) :
    wpP M A (runValue c) Q E s := fun Γ p hΓ hd hcl => by rw [Sem.wp_runValue]; exact hc _ p rfl (hΓ.enter c none p (by intro x; cases x)) (clean_cons hd hcl)
theorem P_call {f : Value} {pos : List Value} {kw : List (Str × Value)} {Q : Value → Shared → Prop}
    (hc : codeP M A (.call f ⟨pos, kw⟩) (fun r s' => match r with | .ok (.ret v) => Q v s' | .ok _ => False | .error e => E e s') s) :
    wpP M A (call f pos kw) Q E s := P_runValue hc
theorem codeP_mono {c : Code} {R R' : Result → Shared → Prop} (h : codeP M A c R s) (hR : ∀ r s, R r s → R' r s) : codeP M A c R' s :=
  fun Γ p hc hΓ hcl => wpCode_mono hR (h Γ p hc hΓ hcl)
def FinP (M : Model) (A : Around) (R : Result → Shared → Prop) (fin : Fin) (s' : Shared) : Prop := match fin with
  | .done f => R (.ok f) s'
  | .again c' => c'.quiet = true ∧ codeP M A c' R s'
theorem codeP_of_tree {c : Code} {R : Result → Shared → Prop} (hdec : isDec c = false)
    (h : wpP M (A.under c) (M.den c) (FinP M A R) (fun e s' => R (.error e) s') s) : codeP M A c R s := fun Γ p hc hΓ hcl => by
  rw [wpCode_iff_wp, hc]
  refine Sem.wp_mono M Γ _ (fun fin p' s' h' => ?_) (fun _ _ _ h' => h') p s (h Γ p (hc ▸ hΓ.in) (hc ▸ hdec) hcl)
  cases fin with
  | done f => exact h'
  | again c' => exact ⟨h'.1, h'.2 (Γ.goto c') p' rfl (hΓ.goto c') hcl⟩
theorem fin_lift {R : Result → Shared → Prop} (fin : Fin) (s' : Shared) (h : match fin with | .done f => R (.ok f) s' | .again c' => c'.quiet = true ∧ codeAny M A c' R s') : FinP M A R fin s' := by
  cases fin with
  | done f => exact h
  | again c' => exact ⟨h.1, codeP_lift h.2⟩

theorem dec_false {c : Code} (h : isDec c = false) (id : String) (args : Args) (e : c = .builtin id args) : Builtin.Bytes.decodersThatHold.contains id = false := by subst e; exact h
theorem guard_none {l : List (Code × Pos)} (h : guardsOf l = []) : ∀ x ∈ l, x.1.isGuard = false := fun x hx => by
  cases q : x.1.isGuard with
  | false => rfl
  | true =>
    have : x.1 ∈ guardsOf l := List.mem_filter.mpr ⟨List.mem_map_of_mem hx, q⟩
    rw [h] at this; cases this
theorem P_exported {v : Value} {Q : Bool → Shared → Prop} (hg : A.guards = some []) (h : Q false s) : wpP M A (Builtin.Bytes.exported v) Q E s := fun Γ p hΓ hd hcl => by
  have hst : guardsOf ((Γ.code, p) :: Γ.below) = [] := by rw [guardsOf_cons]; exact hΓ.2.2.2.1 [] hg
  have hgn := guard_none hst
  have hcl' := clean_cons (p := p) hd hcl
  have key : (((Γ.code, p) :: Γ.below).any fun x => match x with
    | (.builtin "bytearray.__contains__" ⟨u :: _, _⟩, _) | (.builtin "bytearray.__mod__" ⟨u :: _, _⟩, _)
    | (.builtin "bytearray.__rmod__" ⟨_ :: u :: _, _⟩, _) | (.builtin "_struct.pack_into.held" ⟨u :: _, _⟩, _) => Builtin.Bytes.sameRef u v
    | (.builtin "bytearray.find.held" ⟨_ :: _ :: held, _⟩, _) => held.any (Builtin.Bytes.sameRef v)
    | (.builtin id ⟨u :: _, _⟩, _) => Builtin.Bytes.sameRef u v && Builtin.Bytes.decodersThatHold.contains id
    | _ => false) = false := by
    rw [List.any_eq_false]
    intro x hx
    have g := hgn x hx
    have d := hcl' x hx
    obtain ⟨c, q⟩ := x
    have nog : ∀ (id : String) (args : Args) (q' : Pos), (c, q) = (Code.builtin id args, q') → guardIds.contains id = false := fun id args q' e => by
      have g' := g; rw [e] at g'; exact g'
    have nod : ∀ (id : String) (args : Args) (q' : Pos), (c, q) = (Code.builtin id args, q') → Builtin.Bytes.decodersThatHold.contains id = false := fun id args q' e => by
      have d' := d; rw [e] at d'; exact d'
    split
    all_goals first
      | exact absurd (nog _ _ _ (by assumption)) (by decide +kernel)
      | (rw [nod _ _ _ (by assumption), Bool.and_false]; exact Bool.false_ne_true)
      | exact Bool.false_ne_true
  show Q _ s
  refine Eq.mpr (congrArg (fun b => Q b s) ?_) h
  exact key
end
end Mine

end
local macro_rules | `(tactic| walk_at "zz") => `(tactic| fail)
section
open PySem PySem.W PyProof.Rows
noncomputable section
namespace Mine
abbrev PW : Program := PySem.Challenge.pw_vn0026_01
def topS (i : Nat) : Stmt := PW.main.body.getD i (.Pass ⟨0, 0, 0, 0⟩)
def clsB : Stmt → List Stmt
  | .ClassDef _ _ _ b _ _ _ _ _ _ _ => b
  | _ => []
def mth (i j : Nat) : Stmt := (clsB (topS i)).getD j (.Pass ⟨0, 0, 0, 0⟩)
def fO (s : Stmt) (qual : Str) (cl : List (Str × Addr)) (dV kV doc pm : Value) (an : Option Addr) (cd ct : Value) (bi gl : Addr) : Data := match s with
  | .FunctionDef n a b _ _ _ sc _ _ _ => .func { name := n, qualname := qual, params := a, body := .stmts b, scope := sc, globals := gl, closure := cl, defaults := dV, kwdefaults := kV, doc := doc, pyModule := pm, annotations := an, code := cd, closureTuple := ct, builtins := bi }
  | _ => .plain
abbrev vs (x : String) (t : Nat) : Value := .str (Str.ofString x) t
abbrev vi (i : Int) : Value := .int i 0
abbrev vr (a : Nat) : Value := .ref a
abbrev sn (x : String) : Str := Str.ofString x
abbrev de (P : Params) (x : String) (t : Nat) (v : Value) : DictEntry := ⟨PyData.keyHash P (Str.ofString x), .str (Str.ofString x) t, v⟩
def o0_0 (P : Params) : Obj := ⟨(.type "dict"), none, (.dict #[de P "__name__" 1 (vs "builtins" 160), de P "__doc__" 2 (.builtin "builtins.__doc__:str#opaque"), de P "__package__" 3 (.builtin "builtins.__package__:str#opaque"), de P "__loader__" 4 (.builtin "builtins.__loader__:shared#opaque"), de P "__spec__" 5 (.builtin "builtins.__spec__#opaque"), de P "__build_class__" 6 (.builtin "__build_class__"), de P "__import__" 7 (.builtin "__import__"), de P "abs" 8 (.builtin "abs"), de P "all" 9 (.builtin "all"), de P "any" 10 (.builtin "any"), de P "ascii" 11 (.builtin "ascii"), de P "bin" 12 (.builtin "bin"), de P "breakpoint" 13 (.builtin "breakpoint"), de P "callable" 14 (.builtin "callable"), de P "chr" 15 (.builtin "chr"), de P "compile" 16 (.builtin "compile"), de P "delattr" 17 (.builtin "delattr"), de P "dir" 18 (.builtin "dir"), de P "divmod" 19 (.builtin "divmod"), de P "eval" 20 (.builtin "eval"), de P "exec" 21 (.builtin "exec"), de P "format" 22 (.builtin "format"), de P "getattr" 23 (.builtin "getattr"), de P "globals" 24 (.builtin "globals"), de P "hasattr" 25 (.builtin "hasattr"), de P "hash" 26 (.builtin "hash"), de P "hex" 27 (.builtin "hex"), de P "id" 28 (.builtin "id"), de P "input" 29 (.builtin "input"), de P "isinstance" 30 (.builtin "isinstance"), de P "issubclass" 31 (.builtin "issubclass"), de P "iter" 32 (.builtin "iter"), de P "aiter" 33 (.builtin "aiter"), de P "len" 34 (.builtin "len"), de P "locals" 35 (.builtin "locals"), de P "max" 36 (.builtin "max"), de P "min" 37 (.builtin "min"), de P "next" 38 (.builtin "next"), de P "anext" 39 (.builtin "anext"), de P "oct" 40 (.builtin "oct"), de P "ord" 41 (.builtin "ord"), de P "pow" 42 (.builtin "pow"), de P "print" 43 (.builtin "print"), de P "repr" 44 (.builtin "repr"), de P "round" 45 (.builtin "round"), de P "setattr" 46 (.builtin "setattr"), de P "sorted" 47 (.builtin "sorted"), de P "sum" 48 (.builtin "sum"), de P "vars" 49 (.builtin "vars"), de P "None" 50 .none, de P "Ellipsis" 51 .ellipsis, de P "NotImplemented" 52 .notImplemented, de P "False" 53 (.bool false), de P "True" 54 (.bool true), de P "bool" 55 (.type "bool"), de P "memoryview" 56 (.type "memoryview"), de P "bytearray" 57 (.type "bytearray"), de P "bytes" 58 (.type "bytes"), de P "classmethod" 59 (.type "classmethod"), de P "complex" 60 (.type "complex"), de P "dict" 61 (.type "dict"), de P "enumerate" 62 (.type "enumerate"), de P "filter" 63 (.type "filter"), de P "float" 64 (.type "float"), de P "frozenset" 65 (.type "frozenset"), de P "property" 66 (.type "property"), de P "int" 67 (.type "int"), de P "list" 68 (.type "list"), de P "map" 69 (.type "map"), de P "object" 70 (.type "object"), de P "range" 71 (.type "range"), de P "reversed" 72 (.type "reversed"), de P "set" 73 (.type "set"), de P "slice" 74 (.type "slice"), de P "staticmethod" 75 (.type "staticmethod"), de P "str" 76 (.type "str"), de P "super" 77 (.type "super"), de P "tuple" 78 (.type "tuple"), de P "type" 79 (.type "type"), de P "zip" 80 (.type "zip"), de P "__debug__" 81 (.bool true), de P "BaseException" 82 (.type "BaseException"), de P "BaseExceptionGroup" 83 (.type "BaseExceptionGroup"), de P "Exception" 84 (.type "Exception"), de P "GeneratorExit" 85 (.type "GeneratorExit"), de P "KeyboardInterrupt" 86 (.type "KeyboardInterrupt"), de P "SystemExit" 87 (.type "SystemExit"), de P "ArithmeticError" 88 (.type "ArithmeticError"), de P "AssertionError" 89 (.type "AssertionError"), de P "AttributeError" 90 (.type "AttributeError"), de P "BufferError" 91 (.type "BufferError"), de P "EOFError" 92 (.type "EOFError"), de P "ImportError" 93 (.type "ImportError"), de P "LookupError" 94 (.type "LookupError"), de P "MemoryError" 95 (.type "MemoryError"), de P "NameError" 96 (.type "NameError"), de P "OSError" 97 (.type "OSError"), de P "ReferenceError" 98 (.type "ReferenceError"), de P "RuntimeError" 99 (.type "RuntimeError"), de P "StopAsyncIteration" 100 (.type "StopAsyncIteration"), de P "StopIteration" 101 (.type "StopIteration"), de P "SyntaxError" 102 (.type "SyntaxError"), de P "SystemError" 103 (.type "SystemError"), de P "TypeError" 104 (.type "TypeError"), de P "ValueError" 105 (.type "ValueError"), de P "Warning" 106 (.type "Warning"), de P "FloatingPointError" 107 (.type "FloatingPointError"), de P "OverflowError" 108 (.type "OverflowError"), de P "ZeroDivisionError" 109 (.type "ZeroDivisionError"), de P "BytesWarning" 110 (.type "BytesWarning"), de P "DeprecationWarning" 111 (.type "DeprecationWarning"), de P "EncodingWarning" 112 (.type "EncodingWarning"), de P "FutureWarning" 113 (.type "FutureWarning"), de P "ImportWarning" 114 (.type "ImportWarning"), de P "PendingDeprecationWarning" 115 (.type "PendingDeprecationWarning"), de P "ResourceWarning" 116 (.type "ResourceWarning"), de P "RuntimeWarning" 117 (.type "RuntimeWarning"), de P "SyntaxWarning" 118 (.type "SyntaxWarning"), de P "UnicodeWarning" 119 (.type "UnicodeWarning"), de P "UserWarning" 120 (.type "UserWarning"), de P "BlockingIOError" 121 (.type "BlockingIOError"), de P "ChildProcessError" 122 (.type "ChildProcessError"), de P "ConnectionError" 123 (.type "ConnectionError"), de P "FileExistsError" 124 (.type "FileExistsError"), de P "FileNotFoundError" 125 (.type "FileNotFoundError"), de P "InterruptedError" 126 (.type "InterruptedError"), de P "IsADirectoryError" 127 (.type "IsADirectoryError"), de P "NotADirectoryError" 128 (.type "NotADirectoryError"), de P "PermissionError" 129 (.type "PermissionError"), de P "ProcessLookupError" 130 (.type "ProcessLookupError"), de P "TimeoutError" 131 (.type "TimeoutError"), de P "IndentationError" 132 (.type "IndentationError"), de P "_IncompleteInputError" 133 (.type "_IncompleteInputError"), de P "IndexError" 134 (.type "IndexError"), de P "KeyError" 135 (.type "KeyError"), de P "ModuleNotFoundError" 136 (.type "ModuleNotFoundError"), de P "NotImplementedError" 137 (.type "NotImplementedError"), de P "PythonFinalizationError" 138 (.type "PythonFinalizationError"), de P "RecursionError" 139 (.type "RecursionError"), de P "UnboundLocalError" 140 (.type "UnboundLocalError"), de P "UnicodeError" 141 (.type "UnicodeError"), de P "BrokenPipeError" 142 (.type "BrokenPipeError"), de P "ConnectionAbortedError" 143 (.type "ConnectionAbortedError"), de P "ConnectionRefusedError" 144 (.type "ConnectionRefusedError"), de P "ConnectionResetError" 145 (.type "ConnectionResetError"), de P "TabError" 146 (.type "TabError"), de P "UnicodeDecodeError" 147 (.type "UnicodeDecodeError"), de P "UnicodeEncodeError" 148 (.type "UnicodeEncodeError"), de P "UnicodeTranslateError" 149 (.type "UnicodeTranslateError"), de P "ExceptionGroup" 150 (.type "ExceptionGroup"), de P "EnvironmentError" 151 (.type "OSError"), de P "IOError" 152 (.type "OSError"), de P "open" 153 (.builtin "open"), de P "quit" 154 (.builtin "builtins.quit#opaque"), de P "exit" 155 (.builtin "builtins.exit#opaque"), de P "copyright" 156 (.builtin "builtins.copyright#opaque"), de P "credits" 157 (.builtin "builtins.credits#opaque"), de P "license" 158 (.builtin "builtins.license#opaque"), de P "help" 159 (.builtin "builtins.help#opaque")] 159), #[]⟩
def o1_0 (P : Params) : Obj := ⟨(.type "dict"), none, (.dict #[de P "builtins" 162 (vr 4), de P "__main__" 163 (vr 5), de P "_struct" 285 (vr 13)] 3), #[]⟩
def o2_0 (P : Params) : Obj := ⟨.none, none, (.dict #[de P "\x69mport.loaded._struct" 186 (.bool true), de P "class._frozen_importlib_external._LoaderBasics" 191 (vr 16), de P "watched.\x69mport" 207 (vr 20), de P "class._frozen_importlib_external.FileLoader" 208 (vr 22), de P "class._frozen_importlib_external.ExtensionFileLoader" 229 (vr 27), de P "class._frozen_importlib.ModuleSpec" 257 (vr 33), de P "sys.modules.booked-epoch" 286 (vi 3), de P "class.struct.error" 303 (.type "struct.error"), de P "\x69mport.later-laid._struct" 305 (.bool true), de P "watched.library" 307 (vr 38), de P "watched.library-objects" 0 (.str ⟨#[13]⟩ 0)] 11), #[]⟩
def o3_0 (P : Params) : Obj := ⟨(.type "dict"), none, (.dict #[de P "__name__" 165 (vs "__main__" 164), de P "__doc__" 166 .none, de P "__package__" 167 .none, de P "__loader__" 168 (.builtin "__main__.__loader__#opaque"), de P "__spec__" 169 .none, de P "__annotations__" 170 (vr 6), de P "__builtins__" 171 (vr 4), de P "__file__" 173 (vs "/claim/cut.py" 172), de P "__cached__" 174 .none, de P "pack_struct" 313 (.builtin "_struct.pack"), de P "unpack" 316 (.builtin "_struct.unpack")] 11), #[]⟩
def o4_0 (P : Params) : Obj := ⟨(.type "module"), (some 0), .plain, #[]⟩
def o5_0 (P : Params) : Obj := ⟨(.type "module"), (some 3), .plain, #[]⟩
def o6_0 (P : Params) : Obj := ⟨(.type "dict"), none, (.dict #[] 0), #[]⟩
def o7_0 (P : Params) : Obj := ⟨(.type "tuple"), none, (.seq #[] 0), #[]⟩
def o8_0 (P : Params) : Obj := ⟨.none, none, (.fields #[]), #[]⟩
def o9_0 (P : Params) : Obj := ⟨(.type "code"), none, (.fields #[(vs "<module>" 176), (vs "<module>" 177), (vs "/claim/cut.py" 178), (vi 1), (vi 0), (vi 0), (vi 0), (vi 0), (vr 7), (.bool false), (vi 175), (vr 8), .none, .none, .none, .none, (vi 179), (vi 1), (vs "/claim/cut.py" 180)]), #[]⟩
def o10_0 (P : Params) : Obj := ⟨(.type "frame"), none, .plain, #[(some (vr 9)), (some (vr 3)), (some (vr 3)), none, (some (vs "__main__" 164)), none, (some (vr 0))]⟩
def o11_0 (P : Params) : Obj := ⟨(.type "tuple"), none, (.seq #[(vs "pack" 182), (vs "unpack" 183)] 0), #[]⟩
def o12_0 (P : Params) : Obj := ⟨(.type "dict"), none, (.dict #[de P "__name__" 288 (vs "_struct" 287), de P "__doc__" 289 (.builtin "off-the-table:_struct.__doc__:shared#opaque"), de P "__package__" 291 (vs "" 290), de P "__loader__" 292 (.builtin "off-the-table:_struct.__loader__:shared#opaque"), de P "__spec__" 293 (.builtin "off-the-table:_struct.__spec__:shared#opaque"), de P "_clearcache" 294 (.builtin "off-the-table:_struct._clearcache:shared#opaque"), de P "calcsize" 295 (.builtin "_struct.calcsize"), de P "iter_unpack" 296 (.builtin "_struct.iter_unpack"), de P "pack" 297 (.builtin "_struct.pack"), de P "pack_into" 298 (.builtin "_struct.pack_into"), de P "unpack" 299 (.builtin "_struct.unpack"), de P "unpack_from" 300 (.builtin "_struct.unpack_from"), de P "__file__" 301 (.str ⟨#[47, 110, 105, 120, 47, 115, 116, 111, 114, 101, 47, 119, 106, 49, 102, 53, 54, 113, 107, 121, 52, 112, 109, 106, 99, 55, 108, 48, 114, 54, 98, 54, 108, 55, 119, 104, 110, 110, 119, 55, 104, 112, 54, 45, 112, 121, 116, 104, 111, 110, 51, 45, 51, 46, 49, 51, 46, 49, 53, 47, 108, 105, 98, 47, 112, 121, 116, 104, 111, 110, 51, 46, 49, 51, 47, 108, 105, 98, 45, 100, 121, 110, 108, 111, 97, 100, 47, 95, 115, 116, 114, 117, 99, 116, 46, 99, 112, 121, 116, 104, 111, 110, 45, 51, 49, 51, 45, 120, 56, 54, 95, 54, 52, 45, 108, 105, 110, 117, 120, 45, 103, 110, 117, 46, 115, 111]⟩ 187), de P "Struct" 302 (.type "_struct.Struct"), de P "error" 304 (.type "struct.error")] 15), #[]⟩
def o13_0 (P : Params) : Obj := ⟨(.type "module"), (some 12), .plain, #[]⟩
def o14_0 (P : Params) : Obj := ⟨(.type "dict"), none, (.dict #[de P "name" 189 (vs "_struct" 188), de P "path" 190 (.str ⟨#[47, 110, 105, 120, 47, 115, 116, 111, 114, 101, 47, 119, 106, 49, 102, 53, 54, 113, 107, 121, 52, 112, 109, 106, 99, 55, 108, 48, 114, 54, 98, 54, 108, 55, 119, 104, 110, 110, 119, 55, 104, 112, 54, 45, 112, 121, 116, 104, 111, 110, 51, 45, 51, 46, 49, 51, 46, 49, 53, 47, 108, 105, 98, 47, 112, 121, 116, 104, 111, 110, 51, 46, 49, 51, 47, 108, 105, 98, 45, 100, 121, 110, 108, 111, 97, 100, 47, 95, 115, 116, 114, 117, 99, 116, 46, 99, 112, 121, 116, 104, 111, 110, 45, 51, 49, 51, 45, 120, 56, 54, 95, 54, 52, 45, 108, 105, 110, 117, 120, 45, 103, 110, 117, 46, 115, 111]⟩ 187)] 2), #[]⟩
def o15_0 (P : Params) : Obj := ⟨(.type "dict"), none, (.dict #[de P "__module__" 194 (vs "_frozen_importlib_external" 192), de P "__firstlineno__" 195 (.int 1001 193), de P "__doc__" 196 (.builtin "_frozen_importlib_external._LoaderBasics.__doc__:str#opaque"), de P "is_package" 197 (.builtin "_frozen_importlib_external._LoaderBasics.is_package#opaque"), de P "create_module" 198 (.builtin "_frozen_importlib_external._LoaderBasics.create_module#opaque"), de P "exec_module" 199 (.builtin "_frozen_importlib_external._LoaderBasics.exec_module#opaque"), de P "load_module" 200 (.builtin "_frozen_importlib_external._LoaderBasics.load_module#opaque"), de P "__static_attributes__" 201 (vr 17), de P "__dict__" 203 (vr 18), de P "__weakref__" 205 (vr 19)] 10), #[]⟩
def o16_0 (P : Params) : Obj := ⟨(.type "type"), none, (.cls { name := sn "_LoaderBasics", bases := [(.type "object")], mro := [(vr 16), (.type "object")], ns := 15, qualname := sn "_LoaderBasics", hasDict := true, slotNames := [], subclasses := [(vr 27)], abstract := false, collection := none, hasDel := false }), #[]⟩
def o17_0 (P : Params) : Obj := ⟨(.type "tuple"), none, (.seq #[] 0), #[]⟩
def o18_0 (P : Params) : Obj := ⟨(.type "getset_descriptor"), none, (.fields #[(vs "__dict__" 202), (vr 16), (.builtin "function.__dict__"), (.builtin "function.__dict__#set")]), #[]⟩
def o19_0 (P : Params) : Obj := ⟨(.type "getset_descriptor"), none, (.fields #[(vs "__weakref__" 204), (vr 16), (.builtin "ExceptionGroup.__weakref__"), .none]), #[]⟩
def o20_0 (P : Params) : Obj := ⟨.none, none, (.seq #[(vi 15), (.str ⟨#[6, 194, 10, 95, 95, 109, 111, 100, 117, 108, 101, 95, 95, 6, 192, 26, 95, 102, 114, 111, 122, 101, 110, 95, 105, 109, 112, 111, 114, 116, 108, 105, 98, 95, 101, 120, 116, 101, 114, 110, 97, 108, 6, 195, 15, 95, 95, 102, 105, 114, 115, 116, 108, 105, 110, 101, 110, 111, 95, 95, 4, 193, 0, 1001, 6, 196, 7, 95, 95, 100, 111, 99, 95, 95, 9, 59, 95, 102, 114, 111, 122, 101, 110, 95, 105, 109, 112, 111, 114, 116, 108, 105, 98, 95, 101, 120, 116, 101, 114, 110, 97, 108, 46, 95, 76, 111, 97, 100, 101, 114, 66, 97, 115, 105, 99, 115, 46, 95, 95, 100, 111, 99, 95, 95, 58, 115, 116, 114, 35, 111, 112, 97, 113, 117, 101, 6, 197, 10, 105, 115, 95, 112, 97, 99, 107, 97, 103, 101, 9, 58, 95, 102, 114, 111, 122, 101, 110, 95, 105, 109, 112, 111, 114, 116, 108, 105, 98, 95, 101, 120, 116, 101, 114, 110, 97, 108, 46, 95, 76, 111, 97, 100, 101, 114, 66, 97, 115, 105, 99, 115, 46, 105, 115, 95, 112, 97, 99, 107, 97, 103, 101, 35, 111, 112, 97, 113, 117, 101, 6, 198, 13, 99, 114, 101, 97, 116, 101, 95, 109, 111, 100, 117, 108, 101, 9, 61, 95, 102, 114, 111, 122, 101, 110, 95, 105, 109, 112, 111, 114, 116, 108, 105, 98, 95, 101, 120, 116, 101, 114, 110, 97, 108, 46, 95, 76, 111, 97, 100, 101, 114, 66, 97, 115, 105, 99, 115, 46, 99, 114, 101, 97, 116, 101, 95, 109, 111, 100, 117, 108, 101, 35, 111, 112, 97, 113, 117, 101, 6, 199, 11, 101, 120, 101, 99, 95, 109, 111, 100, 117, 108, 101, 9, 59, 95, 102, 114, 111, 122, 101, 110, 95, 105, 109, 112, 111, 114, 116, 108, 105, 98, 95, 101, 120, 116, 101, 114, 110, 97, 108, 46, 95, 76, 111, 97, 100, 101, 114, 66, 97, 115, 105, 99, 115, 46, 101, 120, 101, 99, 95, 109, 111, 100, 117, 108, 101, 35, 111, 112, 97, 113, 117, 101, 6, 200, 11, 108, 111, 97, 100, 95, 109, 111, 100, 117, 108, 101, 9, 59, 95, 102, 114, 111, 122, 101, 110, 95, 105, 109, 112, 111, 114, 116, 108, 105, 98, 95, 101, 120, 116, 101, 114, 110, 97, 108, 46, 95, 76, 111, 97, 100, 101, 114, 66, 97, 115, 105, 99, 115, 46, 108, 111, 97, 100, 95, 109, 111, 100, 117, 108, 101, 35, 111, 112, 97, 113, 117, 101, 6, 201, 21, 95, 95, 115, 116, 97, 116, 105, 99, 95, 97, 116, 116, 114, 105, 98, 117, 116, 101, 115, 95, 95, 4, 0, 0, 17, 6, 203, 8, 95, 95, 100, 105, 99, 116, 95, 95, 4, 0, 0, 18, 6, 205, 11, 95, 95, 119, 101, 97, 107, 114, 101, 102, 95, 95, 4, 0, 0, 19]⟩ 0), (.bool true), (.bool true), (vs "" 206), (vi 21), (.str ⟨#[6, 213, 10, 95, 95, 109, 111, 100, 117, 108, 101, 95, 95, 6, 209, 26, 95, 102, 114, 111, 122, 101, 110, 95, 105, 109, 112, 111, 114, 116, 108, 105, 98, 95, 101, 120, 116, 101, 114, 110, 97, 108, 6, 214, 15, 95, 95, 102, 105, 114, 115, 116, 108, 105, 110, 101, 110, 111, 95, 95, 4, 210, 0, 1176, 6, 215, 7, 95, 95, 100, 111, 99, 95, 95, 9, 56, 95, 102, 114, 111, 122, 101, 110, 95, 105, 109, 112, 111, 114, 116, 108, 105, 98, 95, 101, 120, 116, 101, 114, 110, 97, 108, 46, 70, 105, 108, 101, 76, 111, 97, 100, 101, 114, 46, 95, 95, 100, 111, 99, 95, 95, 58, 115, 116, 114, 35, 111, 112, 97, 113, 117, 101, 6, 216, 8, 95, 95, 105, 110, 105, 116, 95, 95, 9, 53, 95, 102, 114, 111, 122, 101, 110, 95, 105, 109, 112, 111, 114, 116, 108, 105, 98, 95, 101, 120, 116, 101, 114, 110, 97, 108, 46, 70, 105, 108, 101, 76, 111, 97, 100, 101, 114, 46, 95, 95, 105, 110, 105, 116, 95, 95, 35, 111, 112, 97, 113, 117, 101, 6, 217, 6, 95, 95, 101, 113, 95, 95, 9, 51, 95, 102, 114, 111, 122, 101, 110, 95, 105, 109, 112, 111, 114, 116, 108, 105, 98, 95, 101, 120, 116, 101, 114, 110, 97, 108, 46, 70, 105, 108, 101, 76, 111, 97, 100, 101, 114, 46, 95, 95, 101, 113, 95, 95, 35, 111, 112, 97, 113, 117, 101, 6, 218, 8, 95, 95, 104, 97, 115, 104, 95, 95, 9, 53, 95, 102, 114, 111, 122, 101, 110, 95, 105, 109, 112, 111, 114, 116, 108, 105, 98, 95, 101, 120, 116, 101, 114, 110, 97, 108, 46, 70, 105, 108, 101, 76, 111, 97, 100, 101, 114, 46, 95, 95, 104, 97, 115, 104, 95, 95, 35, 111, 112, 97, 113, 117, 101, 6, 219, 11, 108, 111, 97, 100, 95, 109, 111, 100, 117, 108, 101, 9, 56, 95, 102, 114, 111, 122, 101, 110, 95, 105, 109, 112, 111, 114, 116, 108, 105, 98, 95, 101, 120, 116, 101, 114, 110, 97, 108, 46, 70, 105, 108, 101, 76, 111, 97, 100, 101, 114, 46, 108, 111, 97, 100, 95, 109, 111, 100, 117, 108, 101, 35, 111, 112, 97, 113, 117, 101, 6, 220, 12, 103, 101, 116, 95, 102, 105, 108, 101, 110, 97, 109, 101, 9, 57, 95, 102, 114, 111, 122, 101, 110, 95, 105, 109, 112, 111, 114, 116, 108, 105, 98, 95, 101, 120, 116, 101, 114, 110, 97, 108, 46, 70, 105, 108, 101, 76, 111, 97, 100, 101, 114, 46, 103, 101, 116, 95, 102, 105, 108, 101, 110, 97, 109, 101, 35, 111, 112, 97, 113, 117, 101, 6, 221, 8, 103, 101, 116, 95, 100, 97, 116, 97, 9, 53, 95, 102, 114, 111, 122, 101, 110, 95, 105, 109, 112, 111, 114, 116, 108, 105, 98, 95, 101, 120, 116, 101, 114, 110, 97, 108, 46, 70, 105, 108, 101, 76, 111, 97, 100, 101, 114, 46, 103, 101, 116, 95, 100, 97, 116, 97, 35, 111, 112, 97, 113, 117, 101, 6, 222, 19, 103, 101, 116, 95, 114, 101, 115, 111, 117, 114, 99, 101, 95, 114, 101, 97, 100, 101, 114, 9, 64, 95, 102, 114, 111, 122, 101, 110, 95, 105, 109, 112, 111, 114, 116, 108, 105, 98, 95, 101, 120, 116, 101, 114, 110, 97, 108, 46, 70, 105, 108, 101, 76, 111, 97, 100, 101, 114, 46, 103, 101, 116, 95, 114, 101, 115, 111, 117, 114, 99, 101, 95, 114, 101, 97, 100, 101, 114, 35, 111, 112, 97, 113, 117, 101, 6, 223, 21, 95, 95, 115, 116, 97, 116, 105, 99, 95, 97, 116, 116, 114, 105, 98, 117, 116, 101, 115, 95, 95, 4, 0, 0, 23, 6, 225, 8, 95, 95, 100, 105, 99, 116, 95, 95, 4, 0, 0, 24, 6, 227, 11, 95, 95, 119, 101, 97, 107, 114, 101, 102, 95, 95, 4, 0, 0, 25]⟩ 0), (.bool true), (.bool true), (vs "" 228), (vi 26), (.str ⟨#[6, 234, 10, 95, 95, 109, 111, 100, 117, 108, 101, 95, 95, 6, 230, 26, 95, 102, 114, 111, 122, 101, 110, 95, 105, 109, 112, 111, 114, 116, 108, 105, 98, 95, 101, 120, 116, 101, 114, 110, 97, 108, 6, 235, 15, 95, 95, 102, 105, 114, 115, 116, 108, 105, 110, 101, 110, 111, 95, 95, 4, 231, 0, 1296, 6, 236, 7, 95, 95, 100, 111, 99, 95, 95, 9, 65, 95, 102, 114, 111, 122, 101, 110, 95, 105, 109, 112, 111, 114, 116, 108, 105, 98, 95, 101, 120, 116, 101, 114, 110, 97, 108, 46, 69, 120, 116, 101, 110, 115, 105, 111, 110, 70, 105, 108, 101, 76, 111, 97, 100, 101, 114, 46, 95, 95, 100, 111, 99, 95, 95, 58, 115, 116, 114, 35, 111, 112, 97, 113, 117, 101, 6, 237, 8, 95, 95, 105, 110, 105, 116, 95, 95, 9, 62, 95, 102, 114, 111, 122, 101, 110, 95, 105, 109, 112, 111, 114, 116, 108, 105, 98, 95, 101, 120, 116, 101, 114, 110, 97, 108, 46, 69, 120, 116, 101, 110, 115, 105, 111, 110, 70, 105, 108, 101, 76, 111, 97, 100, 101, 114, 46, 95, 95, 105, 110, 105, 116, 95, 95, 35, 111, 112, 97, 113, 117, 101, 6, 238, 6, 95, 95, 101, 113, 95, 95, 9, 60, 95, 102, 114, 111, 122, 101, 110, 95, 105, 109, 112, 111, 114, 116, 108, 105, 98, 95, 101, 120, 116, 101, 114, 110, 97, 108, 46, 69, 120, 116, 101, 110, 115, 105, 111, 110, 70, 105, 108, 101, 76, 111, 97, 100, 101, 114, 46, 95, 95, 101, 113, 95, 95, 35, 111, 112, 97, 113, 117, 101, 6, 239, 8, 95, 95, 104, 97, 115, 104, 95, 95, 9, 62, 95, 102, 114, 111, 122, 101, 110, 95, 105, 109, 112, 111, 114, 116, 108, 105, 98, 95, 101, 120, 116, 101, 114, 110, 97, 108, 46, 69, 120, 116, 101, 110, 115, 105, 111, 110, 70, 105, 108, 101, 76, 111, 97, 100, 101, 114, 46, 95, 95, 104, 97, 115, 104, 95, 95, 35, 111, 112, 97, 113, 117, 101, 6, 240, 13, 99, 114, 101, 97, 116, 101, 95, 109, 111, 100, 117, 108, 101, 9, 67, 95, 102, 114, 111, 122, 101, 110, 95, 105, 109, 112, 111, 114, 116, 108, 105, 98, 95, 101, 120, 116, 101, 114, 110, 97, 108, 46, 69, 120, 116, 101, 110, 115, 105, 111, 110, 70, 105, 108, 101, 76, 111, 97, 100, 101, 114, 46, 99, 114, 101, 97, 116, 101, 95, 109, 111, 100, 117, 108, 101, 35, 111, 112, 97, 113, 117, 101, 6, 241, 11, 101, 120, 101, 99, 95, 109, 111, 100, 117, 108, 101, 9, 65, 95, 102, 114, 111, 122, 101, 110, 95, 105, 109, 112, 111, 114, 116, 108, 105, 98, 95, 101, 120, 116, 101, 114, 110, 97, 108, 46, 69, 120, 116, 101, 110, 115, 105, 111, 110, 70, 105, 108, 101, 76, 111, 97, 100, 101, 114, 46, 101, 120, 101, 99, 95, 109, 111, 100, 117, 108, 101, 35, 111, 112, 97, 113, 117, 101, 6, 242, 10, 105, 115, 95, 112, 97, 99, 107, 97, 103, 101, 9, 64, 95, 102, 114, 111, 122, 101, 110, 95, 105, 109, 112, 111, 114, 116, 108, 105, 98, 95, 101, 120, 116, 101, 114, 110, 97, 108, 46, 69, 120, 116, 101, 110, 115, 105, 111, 110, 70, 105, 108, 101, 76, 111, 97, 100, 101, 114, 46, 105, 115, 95, 112, 97, 99, 107, 97, 103, 101, 35, 111, 112, 97, 113, 117, 101, 6, 243, 8, 103, 101, 116, 95, 99, 111, 100, 101, 9, 62, 95, 102, 114, 111, 122, 101, 110, 95, 105, 109, 112, 111, 114, 116, 108, 105, 98, 95, 101, 120, 116, 101, 114, 110, 97, 108, 46, 69, 120, 116, 101, 110, 115, 105, 111, 110, 70, 105, 108, 101, 76, 111, 97, 100, 101, 114, 46, 103, 101, 116, 95, 99, 111, 100, 101, 35, 111, 112, 97, 113, 117, 101, 6, 244, 10, 103, 101, 116, 95, 115, 111, 117, 114, 99, 101, 9, 64, 95, 102, 114, 111, 122, 101, 110, 95, 105, 109, 112, 111, 114, 116, 108, 105, 98, 95, 101, 120, 116, 101, 114, 110, 97, 108, 46, 69, 120, 116, 101, 110, 115, 105, 111, 110, 70, 105, 108, 101, 76, 111, 97, 100, 101, 114, 46, 103, 101, 116, 95, 115, 111, 117, 114, 99, 101, 35, 111, 112, 97, 113, 117, 101, 6, 245, 12, 103, 101, 116, 95, 102, 105, 108, 101, 110, 97, 109, 101, 9, 66, 95, 102, 114, 111, 122, 101, 110, 95, 105, 109, 112, 111, 114, 116, 108, 105, 98, 95, 101, 120, 116, 101, 114, 110, 97, 108, 46, 69, 120, 116, 101, 110, 115, 105, 111, 110, 70, 105, 108, 101, 76, 111, 97, 100, 101, 114, 46, 103, 101, 116, 95, 102, 105, 108, 101, 110, 97, 109, 101, 35, 111, 112, 97, 113, 117, 101, 6, 246, 21, 95, 95, 115, 116, 97, 116, 105, 99, 95, 97, 116, 116, 114, 105, 98, 117, 116, 101, 115, 95, 95, 4, 0, 0, 28]⟩ 0), (.bool true), (.bool true), (vs "" 247), (vi 32), (.str ⟨#[6, 268, 10, 95, 95, 109, 111, 100, 117, 108, 101, 95, 95, 6, 258, 17, 95, 102, 114, 111, 122, 101, 110, 95, 105, 109, 112, 111, 114, 116, 108, 105, 98, 6, 269, 15, 95, 95, 102, 105, 114, 115, 116, 108, 105, 110, 101, 110, 111, 95, 95, 4, 259, 0, 562, 6, 270, 7, 95, 95, 100, 111, 99, 95, 95, 9, 47, 95, 102, 114, 111, 122, 101, 110, 95, 105, 109, 112, 111, 114, 116, 108, 105, 98, 46, 77, 111, 100, 117, 108, 101, 83, 112, 101, 99, 46, 95, 95, 100, 111, 99, 95, 95, 58, 115, 116, 114, 35, 111, 112, 97, 113, 117, 101, 6, 271, 8, 95, 95, 105, 110, 105, 116, 95, 95, 9, 44, 95, 102, 114, 111, 122, 101, 110, 95, 105, 109, 112, 111, 114, 116, 108, 105, 98, 46, 77, 111, 100, 117, 108, 101, 83, 112, 101, 99, 46, 95, 95, 105, 110, 105, 116, 95, 95, 35, 111, 112, 97, 113, 117, 101, 6, 272, 8, 95, 95, 114, 101, 112, 114, 95, 95, 9, 44, 95, 102, 114, 111, 122, 101, 110, 95, 105, 109, 112, 111, 114, 116, 108, 105, 98, 46, 77, 111, 100, 117, 108, 101, 83, 112, 101, 99, 46, 95, 95, 114, 101, 112, 114, 95, 95, 35, 111, 112, 97, 113, 117, 101, 6, 273, 6, 95, 95, 101, 113, 95, 95, 9, 42, 95, 102, 114, 111, 122, 101, 110, 95, 105, 109, 112, 111, 114, 116, 108, 105, 98, 46, 77, 111, 100, 117, 108, 101, 83, 112, 101, 99, 46, 95, 95, 101, 113, 95, 95, 35, 111, 112, 97, 113, 117, 101, 6, 274, 6, 99, 97, 99, 104, 101, 100, 9, 42, 95, 102, 114, 111, 122, 101, 110, 95, 105, 109, 112, 111, 114, 116, 108, 105, 98, 46, 77, 111, 100, 117, 108, 101, 83, 112, 101, 99, 46, 99, 97, 99, 104, 101, 100, 35, 111, 112, 97, 113, 117, 101, 6, 275, 6, 112, 97, 114, 101, 110, 116, 9, 42, 95, 102, 114, 111, 122, 101, 110, 95, 105, 109, 112, 111, 114, 116, 108, 105, 98, 46, 77, 111, 100, 117, 108, 101, 83, 112, 101, 99, 46, 112, 97, 114, 101, 110, 116, 35, 111, 112, 97, 113, 117, 101, 6, 276, 12, 104, 97, 115, 95, 108, 111, 99, 97, 116, 105, 111, 110, 9, 48, 95, 102, 114, 111, 122, 101, 110, 95, 105, 109, 112, 111, 114, 116, 108, 105, 98, 46, 77, 111, 100, 117, 108, 101, 83, 112, 101, 99, 46, 104, 97, 115, 95, 108, 111, 99, 97, 116, 105, 111, 110, 35, 111, 112, 97, 113, 117, 101, 6, 277, 21, 95, 95, 115, 116, 97, 116, 105, 99, 95, 97, 116, 116, 114, 105, 98, 117, 116, 101, 115, 95, 95, 4, 0, 0, 34, 6, 279, 8, 95, 95, 100, 105, 99, 116, 95, 95, 4, 0, 0, 35, 6, 281, 11, 95, 95, 119, 101, 97, 107, 114, 101, 102, 95, 95, 4, 0, 0, 36, 6, 282, 8, 95, 95, 104, 97, 115, 104, 95, 95, 0]⟩ 0), (.bool true), (.bool true), (vs "" 283)] 3), #[]⟩
def o21_0 (P : Params) : Obj := ⟨(.type "dict"), none, (.dict #[de P "__module__" 213 (vs "_frozen_importlib_external" 209), de P "__firstlineno__" 214 (.int 1176 210), de P "__doc__" 215 (.builtin "_frozen_importlib_external.FileLoader.__doc__:str#opaque"), de P "__init__" 216 (.builtin "_frozen_importlib_external.FileLoader.__init__#opaque"), de P "__eq__" 217 (.builtin "_frozen_importlib_external.FileLoader.__eq__#opaque"), de P "__hash__" 218 (.builtin "_frozen_importlib_external.FileLoader.__hash__#opaque"), de P "load_module" 219 (.builtin "_frozen_importlib_external.FileLoader.load_module#opaque"), de P "get_filename" 220 (.builtin "_frozen_importlib_external.FileLoader.get_filename#opaque"), de P "get_data" 221 (.builtin "_frozen_importlib_external.FileLoader.get_data#opaque"), de P "get_resource_reader" 222 (.builtin "_frozen_importlib_external.FileLoader.get_resource_reader#opaque"), de P "__static_attributes__" 223 (vr 23), de P "__dict__" 225 (vr 24), de P "__weakref__" 227 (vr 25)] 13), #[]⟩
def o22_0 (P : Params) : Obj := ⟨(.type "type"), none, (.cls { name := sn "FileLoader", bases := [(.type "object")], mro := [(vr 22), (.type "object")], ns := 21, qualname := sn "FileLoader", hasDict := true, slotNames := [], subclasses := [(vr 27)], abstract := false, collection := none, hasDel := false }), #[]⟩
def o23_0 (P : Params) : Obj := ⟨(.type "tuple"), none, (.seq #[(vs "name" 211), (vs "path" 212)] 0), #[]⟩
def o24_0 (P : Params) : Obj := ⟨(.type "getset_descriptor"), none, (.fields #[(vs "__dict__" 224), (vr 22), (.builtin "function.__dict__"), (.builtin "function.__dict__#set")]), #[]⟩
def o25_0 (P : Params) : Obj := ⟨(.type "getset_descriptor"), none, (.fields #[(vs "__weakref__" 226), (vr 22), (.builtin "ExceptionGroup.__weakref__"), .none]), #[]⟩
def o26_0 (P : Params) : Obj := ⟨(.type "dict"), none, (.dict #[de P "__module__" 234 (vs "_frozen_importlib_external" 230), de P "__firstlineno__" 235 (.int 1296 231), de P "__doc__" 236 (.builtin "_frozen_importlib_external.ExtensionFileLoader.__doc__:str#opaque"), de P "__init__" 237 (.builtin "_frozen_importlib_external.ExtensionFileLoader.__init__#opaque"), de P "__eq__" 238 (.builtin "_frozen_importlib_external.ExtensionFileLoader.__eq__#opaque"), de P "__hash__" 239 (.builtin "_frozen_importlib_external.ExtensionFileLoader.__hash__#opaque"), de P "create_module" 240 (.builtin "_frozen_importlib_external.ExtensionFileLoader.create_module#opaque"), de P "exec_module" 241 (.builtin "_frozen_importlib_external.ExtensionFileLoader.exec_module#opaque"), de P "is_package" 242 (.builtin "_frozen_importlib_external.ExtensionFileLoader.is_package#opaque"), de P "get_code" 243 (.builtin "_frozen_importlib_external.ExtensionFileLoader.get_code#opaque"), de P "get_source" 244 (.builtin "_frozen_importlib_external.ExtensionFileLoader.get_source#opaque"), de P "get_filename" 245 (.builtin "_frozen_importlib_external.ExtensionFileLoader.get_filename#opaque"), de P "__static_attributes__" 246 (vr 28)] 13), #[]⟩
def o27_0 (P : Params) : Obj := ⟨(.type "type"), none, (.cls { name := sn "ExtensionFileLoader", bases := [(vr 22), (vr 16)], mro := [(vr 27), (vr 22), (vr 16), (.type "object")], ns := 26, qualname := sn "ExtensionFileLoader", hasDict := true, slotNames := [], subclasses := [], abstract := false, collection := none, hasDel := false }), #[]⟩
def o28_0 (P : Params) : Obj := ⟨(.type "tuple"), none, (.seq #[(vs "name" 232), (vs "path" 233)] 0), #[]⟩
def o29_0 (P : Params) : Obj := ⟨(vr 27), (some 14), .plain, #[]⟩
def o30_0 (P : Params) : Obj := ⟨(.type "list"), none, (.seq #[] 0), #[]⟩
def o31_0 (P : Params) : Obj := ⟨(.type "dict"), none, (.dict #[de P "name" 249 (vs "_struct" 248), de P "loader" 250 (vr 29), de P "origin" 251 (.str ⟨#[47, 110, 105, 120, 47, 115, 116, 111, 114, 101, 47, 119, 106, 49, 102, 53, 54, 113, 107, 121, 52, 112, 109, 106, 99, 55, 108, 48, 114, 54, 98, 54, 108, 55, 119, 104, 110, 110, 119, 55, 104, 112, 54, 45, 112, 121, 116, 104, 111, 110, 51, 45, 51, 46, 49, 51, 46, 49, 53, 47, 108, 105, 98, 47, 112, 121, 116, 104, 111, 110, 51, 46, 49, 51, 47, 108, 105, 98, 45, 100, 121, 110, 108, 111, 97, 100, 47, 95, 115, 116, 114, 117, 99, 116, 46, 99, 112, 121, 116, 104, 111, 110, 45, 51, 49, 51, 45, 120, 56, 54, 95, 54, 52, 45, 108, 105, 110, 117, 120, 45, 103, 110, 117, 46, 115, 111]⟩ 187), de P "loader_state" 252 .none, de P "submodule_search_locations" 253 .none, de P "_uninitialized_submodules" 254 (vr 30), de P "_set_fileattr" 255 (.bool true), de P "_cached" 256 .none, de P "_initializing" 284 (.bool false)] 9), #[]⟩
def o32_0 (P : Params) : Obj := ⟨(.type "dict"), none, (.dict #[de P "__module__" 268 (vs "_frozen_importlib" 258), de P "__firstlineno__" 269 (.int 562 259), de P "__doc__" 270 (.builtin "_frozen_importlib.ModuleSpec.__doc__:str#opaque"), de P "__init__" 271 (.builtin "_frozen_importlib.ModuleSpec.__init__#opaque"), de P "__repr__" 272 (.builtin "_frozen_importlib.ModuleSpec.__repr__#opaque"), de P "__eq__" 273 (.builtin "_frozen_importlib.ModuleSpec.__eq__#opaque"), de P "cached" 274 (.builtin "_frozen_importlib.ModuleSpec.cached#opaque"), de P "parent" 275 (.builtin "_frozen_importlib.ModuleSpec.parent#opaque"), de P "has_location" 276 (.builtin "_frozen_importlib.ModuleSpec.has_location#opaque"), de P "__static_attributes__" 277 (vr 34), de P "__dict__" 279 (vr 35), de P "__weakref__" 281 (vr 36), de P "__hash__" 282 .none] 13), #[]⟩
def o33_0 (P : Params) : Obj := ⟨(.type "type"), none, (.cls { name := sn "ModuleSpec", bases := [(.type "object")], mro := [(vr 33), (.type "object")], ns := 32, qualname := sn "ModuleSpec", hasDict := true, slotNames := [], subclasses := [], abstract := false, collection := none, hasDel := false }), #[]⟩
def o34_0 (P : Params) : Obj := ⟨(.type "tuple"), none, (.seq #[(vs "_cached" 260), (vs "_set_fileattr" 261), (vs "_uninitialized_submodules" 262), (vs "loader" 263), (vs "loader_state" 264), (vs "name" 265), (vs "origin" 266), (vs "submodule_search_locations" 267)] 0), #[]⟩
def o35_0 (P : Params) : Obj := ⟨(.type "getset_descriptor"), none, (.fields #[(vs "__dict__" 278), (vr 33), (.builtin "function.__dict__"), (.builtin "function.__dict__#set")]), #[]⟩
def o36_0 (P : Params) : Obj := ⟨(.type "getset_descriptor"), none, (.fields #[(vs "__weakref__" 280), (vr 33), (.builtin "ExceptionGroup.__weakref__"), .none]), #[]⟩
def o37_0 (P : Params) : Obj := ⟨(vr 33), (some 31), .plain, #[]⟩
def o38_0 (P : Params) : Obj := ⟨.none, none, (.seq #[(vi 12), (.str ⟨#[6, 288, 8, 95, 95, 110, 97, 109, 101, 95, 95, 6, 287, 7, 95, 115, 116, 114, 117, 99, 116, 6, 289, 7, 95, 95, 100, 111, 99, 95, 95, 9, 26, 95, 115, 116, 114, 117, 99, 116, 46, 95, 95, 100, 111, 99, 95, 95, 58, 115, 116, 114, 35, 111, 112, 97, 113, 117, 101, 6, 291, 11, 95, 95, 112, 97, 99, 107, 97, 103, 101, 95, 95, 6, 290, 0, 6, 292, 10, 95, 95, 108, 111, 97, 100, 101, 114, 95, 95, 4, 0, 0, 29, 6, 293, 8, 95, 95, 115, 112, 101, 99, 95, 95, 4, 0, 0, 37, 6, 294, 11, 95, 99, 108, 101, 97, 114, 99, 97, 99, 104, 101, 9, 19, 95, 115, 116, 114, 117, 99, 116, 46, 95, 99, 108, 101, 97, 114, 99, 97, 99, 104, 101, 6, 295, 8, 99, 97, 108, 99, 115, 105, 122, 101, 9, 16, 95, 115, 116, 114, 117, 99, 116, 46, 99, 97, 108, 99, 115, 105, 122, 101, 6, 296, 11, 105, 116, 101, 114, 95, 117, 110, 112, 97, 99, 107, 9, 19, 95, 115, 116, 114, 117, 99, 116, 46, 105, 116, 101, 114, 95, 117, 110, 112, 97, 99, 107, 6, 297, 4, 112, 97, 99, 107, 9, 12, 95, 115, 116, 114, 117, 99, 116, 46, 112, 97, 99, 107, 6, 298, 9, 112, 97, 99, 107, 95, 105, 110, 116, 111, 9, 17, 95, 115, 116, 114, 117, 99, 116, 46, 112, 97, 99, 107, 95, 105, 110, 116, 111, 6, 299, 6, 117, 110, 112, 97, 99, 107, 9, 14, 95, 115, 116, 114, 117, 99, 116, 46, 117, 110, 112, 97, 99, 107, 6, 300, 11, 117, 110, 112, 97, 99, 107, 95, 102, 114, 111, 109, 9, 19, 95, 115, 116, 114, 117, 99, 116, 46, 117, 110, 112, 97, 99, 107, 95, 102, 114, 111, 109, 6, 301, 8, 95, 95, 102, 105, 108, 101, 95, 95, 6, 187, 126, 47, 110, 105, 120, 47, 115, 116, 111, 114, 101, 47, 119, 106, 49, 102, 53, 54, 113, 107, 121, 52, 112, 109, 106, 99, 55, 108, 48, 114, 54, 98, 54, 108, 55, 119, 104, 110, 110, 119, 55, 104, 112, 54, 45, 112, 121, 116, 104, 111, 110, 51, 45, 51, 46, 49, 51, 46, 49, 53, 47, 108, 105, 98, 47, 112, 121, 116, 104, 111, 110, 51, 46, 49, 51, 47, 108, 105, 98, 45, 100, 121, 110, 108, 111, 97, 100, 47, 95, 115, 116, 114, 117, 99, 116, 46, 99, 112, 121, 116, 104, 111, 110, 45, 51, 49, 51, 45, 120, 56, 54, 95, 54, 52, 45, 108, 105, 110, 117, 120, 45, 103, 110, 117, 46, 115, 111, 6, 302, 6, 83, 116, 114, 117, 99, 116, 8, 14, 95, 115, 116, 114, 117, 99, 116, 46, 83, 116, 114, 117, 99, 116, 6, 304, 5, 101, 114, 114, 111, 114, 8, 12, 115, 116, 114, 117, 99, 116, 46, 101, 114, 114, 111, 114]⟩ 0), (.bool true), (.bool false), (vs "_struct" 306)] 0), #[]⟩
def tr0 (P : Params) : BT := (.node (o0_0 P) (.node (o1_0 P) (.node (o3_0 P) (.node (o7_0 P) (.node (o15_0 P) (.node (o31_0 P) .nil .nil) .nil) (.node (o23_0 P) .nil .nil)) (.node (o11_0 P) (.node (o19_0 P) (.node (o35_0 P) .nil .nil) .nil) (.node (o27_0 P) .nil .nil))) (.node (o5_0 P) (.node (o9_0 P) (.node (o17_0 P) (.node (o33_0 P) .nil .nil) .nil) (.node (o25_0 P) .nil .nil)) (.node (o13_0 P) (.node (o21_0 P) (.node (o37_0 P) .nil .nil) .nil) (.node (o29_0 P) .nil .nil)))) (.node (o2_0 P) (.node (o4_0 P) (.node (o8_0 P) (.node (o16_0 P) (.node (o32_0 P) .nil .nil) .nil) (.node (o24_0 P) .nil .nil)) (.node (o12_0 P) (.node (o20_0 P) (.node (o36_0 P) .nil .nil) .nil) (.node (o28_0 P) .nil .nil))) (.node (o6_0 P) (.node (o10_0 P) (.node (o18_0 P) (.node (o34_0 P) .nil .nil) .nil) (.node (o26_0 P) .nil .nil)) (.node (o14_0 P) (.node (o22_0 P) (.node (o38_0 P) .nil .nil) .nil) (.node (o30_0 P) .nil .nil)))))
def o39_0 (P : Params) : Obj := ⟨(.type "tuple"), none, (.seq #[] 0), #[]⟩
def o40_0 (P : Params) : Obj := ⟨.none, none, (.fields #[]), #[]⟩
def o41_0 (P : Params) : Obj := ⟨(.type "code"), none, (.fields #[(vs "<module>" 318), (vs "<module>" 319), (vs "/claim/cut.py" 320), (vi 1), (vi 0), (vi 0), (vi 0), (vi 0), (vr 39), (.bool false), (vi 317), (vr 40), .none, .none, .none, .none, (vi 321), (vi 1), (vs "/claim/cut.py" 322)]), #[]⟩
def o42_0 (P : Params) : Obj := ⟨(.type "frame"), none, .plain, #[(some (vr 41)), (some (vr 3)), (some (vr 3)), none, (some (vs "__main__" 164)), none, (some (vr 0))]⟩
def trB (P : Params) : BT := (.node (o0_0 P) (.node (o1_0 P) (.node (o3_0 P) (.node (o7_0 P) (.node (o15_0 P) (.node (o31_0 P) .nil .nil) .nil) (.node (o23_0 P) (.node (o39_0 P) .nil .nil) .nil)) (.node (o11_0 P) (.node (o19_0 P) (.node (o35_0 P) .nil .nil) .nil) (.node (o27_0 P) .nil .nil))) (.node (o5_0 P) (.node (o9_0 P) (.node (o17_0 P) (.node (o33_0 P) .nil .nil) .nil) (.node (o25_0 P) (.node (o41_0 P) .nil .nil) .nil)) (.node (o13_0 P) (.node (o21_0 P) (.node (o37_0 P) .nil .nil) .nil) (.node (o29_0 P) .nil .nil)))) (.node (o2_0 P) (.node (o4_0 P) (.node (o8_0 P) (.node (o16_0 P) (.node (o32_0 P) .nil .nil) .nil) (.node (o24_0 P) (.node (o40_0 P) .nil .nil) .nil)) (.node (o12_0 P) (.node (o20_0 P) (.node (o36_0 P) .nil .nil) .nil) (.node (o28_0 P) .nil .nil))) (.node (o6_0 P) (.node (o10_0 P) (.node (o18_0 P) (.node (o34_0 P) .nil .nil) .nil) (.node (o26_0 P) (.node (o42_0 P) .nil .nil) .nil)) (.node (o14_0 P) (.node (o22_0 P) (.node (o38_0 P) .nil .nil) .nil) (.node (o30_0 P) .nil .nil)))))
def o2_1 (P : Params) : Obj := ⟨.none, none, (.dict #[de P "\x69mport.loaded._struct" 186 (.bool true), de P "class._frozen_importlib_external._LoaderBasics" 191 (vr 16), de P "watched.\x69mport" 207 (vr 20), de P "class._frozen_importlib_external.FileLoader" 208 (vr 22), de P "class._frozen_importlib_external.ExtensionFileLoader" 229 (vr 27), de P "class._frozen_importlib.ModuleSpec" 257 (vr 33), de P "sys.modules.booked-epoch" 286 (vi 3), de P "class.struct.error" 303 (.type "struct.error"), de P "\x69mport.later-laid._struct" 305 (.bool true), de P "watched.library" 307 (vr 38), de P "watched.library-objects" 0 (.str ⟨#[13]⟩ 0), de P "type.__subclasses__.OSError.0" 605 (vi 242), de P "type.__subclasses__.OSError.n" 606 (vi 1)] 13), #[]⟩
def o3_1 (P : Params) : Obj := ⟨(.type "dict"), none, (.dict #[de P "__name__" 165 (vs "io" 569), de P "__doc__" 166 .none, de P "__package__" 167 .none, de P "__loader__" 168 (.builtin "__main__.__loader__#opaque"), de P "__spec__" 169 .none, de P "__annotations__" 170 (vr 6), de P "__builtins__" 171 (vr 4), de P "__file__" 173 (vs "/claim/cut.py" 172), de P "__cached__" 174 .none, de P "pack_struct" 313 (.builtin "_struct.pack"), de P "unpack" 316 (.builtin "_struct.unpack"), de P "_wall" 329 (vr 49), de P "frozendict" 351 (vr 59), de P "ExtType" 407 (vr 104), de P "Timestamp" 555 (vr 207), de P "DEFAULT_RECURSE_LIMIT" 559 (.int 1024 558), de P "_check_type_strict" 568 (vr 218), de P "_whence" 578 (vr 225), de P "_index" 586 (vr 232), de P "UnsupportedOperation" 608 (vr 242), de P "IOBase" 640 (vr 262), de P "BufferedIOBase" 658 (vr 277), de P "TextIOBase" 676 (vr 289), de P "BytesIO" 938 (vr 519)] 24), #[]⟩
def o40_1 (P : Params) : Obj := ⟨.none, none, (.fields #[(vi 2), (vi 0), (vr 48), (vi 6), (vi 0), (vr 55), (vi 9), (vi 0), (vr 69), (vi 31), (vi 0), (vr 114), (vi 99), (vi 0), (vr 217), (vi 105), (vi 0), (vr 224), (vi 110), (vi 0), (vr 231), (vi 117), (vi 0), (vr 238), (vi 119), (vi 0), (vr 251), (vi 126), (vi 0), (vr 273), (vi 128), (vi 0), (vr 285), (vi 130), (vi 0), (vr 297)]), #[]⟩
def o43_0 (P : Params) : Obj := ⟨(.type "tuple"), none, (.seq #[] 0), #[]⟩
def o44_0 (P : Params) : Obj := ⟨.none, none, (.fields #[]), #[]⟩
def o45_0 (P : Params) : Obj := ⟨(.type "tuple"), none, (.seq #[(vs "k" 326)] 0), #[]⟩
def o46_0 (P : Params) : Obj := ⟨(.type "tuple"), none, (.seq #[] 0), #[]⟩
def o47_0 (P : Params) : Obj := ⟨.none, none, (fO (topS 1) (sn "_wall") [] .none .none .none .none none .none .none 0 0), #[]⟩
def o48_0 (P : Params) : Obj := ⟨(.type "code"), none, (.fields #[(vs "_wall" 323), (vs "_wall" 324), (vs "/claim/cut.py" 325), (vi 2), (vi 1), (vi 0), (vi 0), (vi 3), (vr 43), (.bool true), (vi 317), (vr 44), .none, (vr 45), (vr 46), (vr 47), (vi 327), (vi 2), (vs "/claim/cut.py" 328)]), #[]⟩
def o49_0 (P : Params) : Obj := ⟨(.type "function"), none, (fO (topS 1) (sn "_wall") [] .none .none .none (vs "__main__" 164) none (vr 48) .none 0 3), #[]⟩
def o50_0 (P : Params) : Obj := ⟨(.type "tuple"), none, (.seq #[] 0), #[]⟩
def o51_0 (P : Params) : Obj := ⟨(.type "builtin_function_or_method"), none, (.fields #[(.builtin "type.__prepare__"), (.type "type")]), #[]⟩
def o52_0 (P : Params) : Obj := ⟨(.type "dict"), none, (.dict #[de P "__module__" 339 (vs "msgpack.fallback" 330), de P "__qualname__" 341 (vs "frozendict" 340), de P "__firstlineno__" 343 (.int 6 342), de P "__static_attributes__" 344 (vr 57)] 4), #[]⟩
def o53_0 (P : Params) : Obj := ⟨(.type "tuple"), none, (.seq #[] 0), #[]⟩
def o54_0 (P : Params) : Obj := ⟨.none, none, (.fields #[]), #[]⟩
def o55_0 (P : Params) : Obj := ⟨(.type "code"), none, (.fields #[(vs "frozendict" 334), (vs "frozendict" 335), (vs "/claim/cut.py" 336), (vi 6), (vi 0), (vi 0), (vi 0), (vi 0), (vr 53), (.bool false), (vi 317), (vr 54), .none, .none, .none, .none, (vi 337), (vi 6), (vs "/claim/cut.py" 338)]), #[]⟩
def o56_0 (P : Params) : Obj := ⟨(.type "frame"), none, .plain, #[(some (vr 55)), (some (vr 3)), (some (vr 52)), none, (some (vs "msgpack.fallback" 330)), none, (some (vr 0))]⟩
def o57_0 (P : Params) : Obj := ⟨(.type "tuple"), none, (.seq #[] 0), #[]⟩
def o58_0 (P : Params) : Obj := ⟨(.type "dict"), none, (.dict #[de P "__module__" 339 (vs "msgpack.fallback" 330), de P "__firstlineno__" 343 (.int 6 342), de P "__static_attributes__" 344 (vr 57), de P "__dict__" 346 (vr 60), de P "__weakref__" 348 (vr 61), de P "__doc__" 349 .none] 4), #[]⟩
def o59_0 (P : Params) : Obj := ⟨(.type "type"), none, (.cls { name := sn "frozendict", bases := [(.type "object")], mro := [(vr 59), (.type "object")], ns := 58, qualname := sn "frozendict", hasDict := true, slotNames := [], subclasses := [], abstract := false, collection := none, hasDel := false }), #[none, none, (some (vs "frozendict" 332)), (some (vs "frozendict" 340)), (some (.builtin "object.__new__")), (some (.bool true))]⟩
def o60_0 (P : Params) : Obj := ⟨(.type "getset_descriptor"), none, (.fields #[(vs "__dict__" 345), (vr 59), (.builtin "function.__dict__"), (.builtin "function.__dict__#set")]), #[]⟩
def o61_0 (P : Params) : Obj := ⟨(.type "getset_descriptor"), none, (.fields #[(vs "__weakref__" 347), (vr 59), (.builtin "ExceptionGroup.__weakref__"), .none]), #[]⟩
def o62_0 (P : Params) : Obj := ⟨(.type "super"), none, (.fields #[(vr 59), (vr 59), (vr 59)]), #[]⟩
def o63_0 (P : Params) : Obj := ⟨(.type "builtin_function_or_method"), none, (.fields #[(.builtin "object.__init_subclass__"), (vr 59)]), #[]⟩
def o64_0 (P : Params) : Obj := ⟨(.type "tuple"), none, (.seq #[(.type "tuple")] 0), #[]⟩
def o65_0 (P : Params) : Obj := ⟨(.type "builtin_function_or_method"), none, (.fields #[(.builtin "type.__prepare__"), (.type "type")]), #[]⟩
def o66_0 (P : Params) : Obj := ⟨(.type "dict"), none, (.dict #[de P "__module__" 361 (vs "msgpack.ext" 352), de P "__qualname__" 363 (vs "ExtType" 362), de P "__firstlineno__" 365 (.int 9 364), de P "_fields" 368 (vr 71), de P "code" 376 (vr 79), de P "data" 384 (vr 87), de P "__new__" 393 (vr 94), de P "__repr__" 400 (vr 101), de P "__static_attributes__" 401 (vr 102)] 9), #[]⟩
def o67_0 (P : Params) : Obj := ⟨(.type "tuple"), none, (.seq #[] 0), #[]⟩
def o68_0 (P : Params) : Obj := ⟨.none, none, (.fields #[(vi 13), (vi 4), (vr 77), (vi 17), (vi 4), (vr 85), (vi 20), (vi 4), (vr 93), (vi 29), (vi 4), (vr 100)]), #[]⟩
def o69_0 (P : Params) : Obj := ⟨(.type "code"), none, (.fields #[(vs "ExtType" 356), (vs "ExtType" 357), (vs "/claim/cut.py" 358), (vi 9), (vi 0), (vi 0), (vi 0), (vi 0), (vr 67), (.bool false), (vi 317), (vr 68), .none, .none, .none, .none, (vi 359), (vi 9), (vs "/claim/cut.py" 360)]), #[]⟩
def o70_0 (P : Params) : Obj := ⟨(.type "frame"), none, .plain, #[(some (vr 69)), (some (vr 3)), (some (vr 66)), none, (some (vs "msgpack.ext" 352)), none, (some (vr 0))]⟩
def o71_0 (P : Params) : Obj := ⟨(.type "tuple"), none, (.seq #[(vs "code" 366), (vs "data" 367)] 0), #[]⟩
def o72_0 (P : Params) : Obj := ⟨(.type "tuple"), none, (.seq #[] 0), #[]⟩
def o73_0 (P : Params) : Obj := ⟨.none, none, (.fields #[]), #[]⟩
def o74_0 (P : Params) : Obj := ⟨(.type "tuple"), none, (.seq #[(vs "self" 372)] 0), #[]⟩
def o75_0 (P : Params) : Obj := ⟨(.type "tuple"), none, (.seq #[] 0), #[]⟩
def o76_0 (P : Params) : Obj := ⟨.none, none, (fO (mth 5 1) (sn "ExtType.code") [] .none .none .none .none none .none .none 0 0), #[]⟩
def o77_0 (P : Params) : Obj := ⟨(.type "code"), none, (.fields #[(vs "code" 369), (vs "ExtType.code" 370), (vs "/claim/cut.py" 371), (vi 12), (vi 1), (vi 0), (vi 0), (vi 3), (vr 72), (.bool true), (vi 317), (vr 73), .none, (vr 74), (vr 75), (vr 76), (vi 373), (vi 12), (vs "/claim/cut.py" 374)]), #[]⟩
def o78_0 (P : Params) : Obj := ⟨(.type "function"), none, (fO (mth 5 1) (sn "ExtType.code") [] .none .none .none (vs "msgpack.ext" 352) none (vr 77) .none 0 3), #[]⟩
def o79_0 (P : Params) : Obj := ⟨(.type "property"), none, (.fields #[(vr 78), .none, .none, .none, (vs "code" 376), (.bool false)]), #[]⟩
def o80_0 (P : Params) : Obj := ⟨(.type "tuple"), none, (.seq #[] 0), #[]⟩
def o81_0 (P : Params) : Obj := ⟨.none, none, (.fields #[]), #[]⟩
def o82_0 (P : Params) : Obj := ⟨(.type "tuple"), none, (.seq #[(vs "self" 380)] 0), #[]⟩
def o83_0 (P : Params) : Obj := ⟨(.type "tuple"), none, (.seq #[] 0), #[]⟩
def o84_0 (P : Params) : Obj := ⟨.none, none, (fO (mth 5 2) (sn "ExtType.data") [] .none .none .none .none none .none .none 0 0), #[]⟩
def o85_0 (P : Params) : Obj := ⟨(.type "code"), none, (.fields #[(vs "data" 377), (vs "ExtType.data" 378), (vs "/claim/cut.py" 379), (vi 16), (vi 1), (vi 0), (vi 0), (vi 3), (vr 80), (.bool true), (vi 317), (vr 81), .none, (vr 82), (vr 83), (vr 84), (vi 381), (vi 16), (vs "/claim/cut.py" 382)]), #[]⟩
def o86_0 (P : Params) : Obj := ⟨(.type "function"), none, (fO (mth 5 2) (sn "ExtType.data") [] .none .none .none (vs "msgpack.ext" 352) none (vr 85) .none 0 3), #[]⟩
def o87_0 (P : Params) : Obj := ⟨(.type "property"), none, (.fields #[(vr 86), .none, .none, .none, (vs "data" 384), (.bool false)]), #[]⟩
def o88_0 (P : Params) : Obj := ⟨(.type "tuple"), none, (.seq #[] 0), #[]⟩
def o89_0 (P : Params) : Obj := ⟨.none, none, (.fields #[]), #[]⟩
def o90_0 (P : Params) : Obj := ⟨(.type "tuple"), none, (.seq #[(vs "cls" 388), (vs "code" 389), (vs "data" 390)] 0), #[]⟩
def o91_0 (P : Params) : Obj := ⟨(.type "tuple"), none, (.seq #[] 0), #[]⟩
def o92_0 (P : Params) : Obj := ⟨.none, none, (fO (mth 5 3) (sn "ExtType.__new__") [] .none .none .none .none none .none .none 0 0), #[]⟩
def o93_0 (P : Params) : Obj := ⟨(.type "code"), none, (.fields #[(vs "__new__" 385), (vs "ExtType.__new__" 386), (vs "/claim/cut.py" 387), (vi 20), (vi 3), (vi 0), (vi 0), (vi 3), (vr 88), (.bool true), (vi 317), (vr 89), .none, (vr 90), (vr 91), (vr 92), (vi 391), (vi 20), (vs "/claim/cut.py" 392)]), #[]⟩
def o94_0 (P : Params) : Obj := ⟨(.type "function"), none, (fO (mth 5 3) (sn "ExtType.__new__") [] .none .none .none (vs "msgpack.ext" 352) none (vr 93) .none 0 3), #[]⟩
def o95_0 (P : Params) : Obj := ⟨(.type "tuple"), none, (.seq #[] 0), #[]⟩
def o96_0 (P : Params) : Obj := ⟨.none, none, (.fields #[]), #[]⟩
def o97_0 (P : Params) : Obj := ⟨(.type "tuple"), none, (.seq #[(vs "self" 397)] 0), #[]⟩
def o98_0 (P : Params) : Obj := ⟨(.type "tuple"), none, (.seq #[] 0), #[]⟩
def o99_0 (P : Params) : Obj := ⟨.none, none, (fO (mth 5 4) (sn "ExtType.__repr__") [] .none .none .none .none none .none .none 0 0), #[]⟩
def o100_0 (P : Params) : Obj := ⟨(.type "code"), none, (.fields #[(vs "__repr__" 394), (vs "ExtType.__repr__" 395), (vs "/claim/cut.py" 396), (vi 29), (vi 1), (vi 0), (vi 0), (vi 3), (vr 95), (.bool true), (vi 317), (vr 96), .none, (vr 97), (vr 98), (vr 99), (vi 398), (vi 29), (vs "/claim/cut.py" 399)]), #[]⟩
def o101_0 (P : Params) : Obj := ⟨(.type "function"), none, (fO (mth 5 4) (sn "ExtType.__repr__") [] .none .none .none (vs "msgpack.ext" 352) none (vr 100) .none 0 3), #[]⟩
def o102_0 (P : Params) : Obj := ⟨(.type "tuple"), none, (.seq #[] 0), #[]⟩
def o103_0 (P : Params) : Obj := ⟨(.type "dict"), none, (.dict #[de P "__module__" 361 (vs "msgpack.ext" 352), de P "__firstlineno__" 365 (.int 9 364), de P "_fields" 368 (vr 71), de P "code" 376 (vr 79), de P "data" 384 (vr 87), de P "__new__" 393 (vr 105), de P "__repr__" 400 (vr 101), de P "__static_attributes__" 401 (vr 102), de P "__dict__" 404 (vr 106), de P "__doc__" 405 .none] 3), #[]⟩
def o104_0 (P : Params) : Obj := ⟨(.type "type"), none, (.cls { name := sn "ExtType", bases := [(.type "tuple")], mro := [(vr 104), (.type "tuple"), (.type "object")], ns := 103, qualname := sn "ExtType", hasDict := true, slotNames := [], subclasses := [], abstract := false, collection := none, hasDel := false }), #[(some (vr 64)), none, (some (vs "ExtType" 354)), (some (vs "ExtType" 362)), (some .none), (some (.bool false))]⟩
def o105_0 (P : Params) : Obj := ⟨(.type "staticmethod"), none, (.fields #[(vr 94)]), #[]⟩
def o106_0 (P : Params) : Obj := ⟨(.type "getset_descriptor"), none, (.fields #[(vs "__dict__" 403), (vr 104), (.builtin "function.__dict__"), (.builtin "function.__dict__#set")]), #[]⟩
def o107_0 (P : Params) : Obj := ⟨(.type "super"), none, (.fields #[(vr 104), (vr 104), (vr 104)]), #[]⟩
def o108_0 (P : Params) : Obj := ⟨(.type "builtin_function_or_method"), none, (.fields #[(.builtin "object.__init_subclass__"), (vr 104)]), #[]⟩
def o109_0 (P : Params) : Obj := ⟨(.type "tuple"), none, (.seq #[] 0), #[]⟩
def o110_0 (P : Params) : Obj := ⟨(.type "builtin_function_or_method"), none, (.fields #[(.builtin "type.__prepare__"), (.type "type")]), #[]⟩
def o111_0 (P : Params) : Obj := ⟨(.type "dict"), none, (.dict #[de P "__module__" 415 (vs "msgpack.ext" 352), de P "__qualname__" 417 (vs "Timestamp" 416), de P "__firstlineno__" 419 (.int 31 418), de P "__slots__" 422 (vr 116), de P "__init__" 432 (vr 124), de P "__repr__" 439 (vr 131), de P "__eq__" 447 (vr 138), de P "__ne__" 455 (vr 145), de P "__hash__" 462 (vr 152), de P "from_bytes" 484 (vr 161), de P "to_bytes" 493 (vr 169), de P "from_unix" 512 (vr 178), de P "to_unix" 519 (vr 186), de P "from_unix_nano" 538 (vr 195), de P "to_unix_nano" 545 (vr 203), de P "__static_attributes__" 548 (vr 204)] 16), #[]⟩
def o112_0 (P : Params) : Obj := ⟨(.type "tuple"), none, (.seq #[] 0), #[]⟩
def o113_0 (P : Params) : Obj := ⟨.none, none, (.fields #[(vi 34), (vi 4), (vr 123), (vi 44), (vi 4), (vr 130), (vi 47), (vi 4), (vr 137), (vi 52), (vi 4), (vr 144), (vi 55), (vi 4), (vr 151), (vi 59), (vi 4), (vr 158), (vi 73), (vi 4), (vr 168), (vi 85), (vi 4), (vr 175), (vi 88), (vi 4), (vr 185), (vi 92), (vi 4), (vr 192), (vi 95), (vi 4), (vr 202)]), #[]⟩
def o114_0 (P : Params) : Obj := ⟨(.type "code"), none, (.fields #[(vs "Timestamp" 410), (vs "Timestamp" 411), (vs "/claim/cut.py" 412), (vi 31), (vi 0), (vi 0), (vi 0), (vi 0), (vr 112), (.bool false), (vi 317), (vr 113), .none, .none, .none, .none, (vi 413), (vi 31), (vs "/claim/cut.py" 414)]), #[]⟩
def o115_0 (P : Params) : Obj := ⟨(.type "frame"), none, .plain, #[(some (vr 114)), (some (vr 3)), (some (vr 111)), none, (some (vs "msgpack.ext" 352)), none, (some (vr 0))]⟩
def o116_0 (P : Params) : Obj := ⟨(.type "list"), none, (.seq #[(vs "seconds" 420), (vs "nanoseconds" 421)] 0), #[]⟩
def o117_0 (P : Params) : Obj := ⟨(.type "tuple"), none, (.seq #[(.int 0 423)] 0), #[]⟩
def o118_0 (P : Params) : Obj := ⟨(.type "tuple"), none, (.seq #[] 0), #[]⟩
def o119_0 (P : Params) : Obj := ⟨.none, none, (.fields #[]), #[]⟩
def o120_0 (P : Params) : Obj := ⟨(.type "tuple"), none, (.seq #[(vs "self" 427), (vs "seconds" 428), (vs "nanoseconds" 429)] 0), #[]⟩
def o121_0 (P : Params) : Obj := ⟨(.type "tuple"), none, (.seq #[] 0), #[]⟩
def o122_0 (P : Params) : Obj := ⟨.none, none, (fO (mth 6 1) (sn "Timestamp.__init__") [] .none .none .none .none none .none .none 0 0), #[]⟩
def o123_0 (P : Params) : Obj := ⟨(.type "code"), none, (.fields #[(vs "__init__" 424), (vs "Timestamp.__init__" 425), (vs "/claim/cut.py" 426), (vi 34), (vi 3), (vi 0), (vi 0), (vi 3), (vr 118), (.bool true), (vi 317), (vr 119), .none, (vr 120), (vr 121), (vr 122), (vi 430), (vi 34), (vs "/claim/cut.py" 431)]), #[]⟩
def o124_0 (P : Params) : Obj := ⟨(.type "function"), none, (fO (mth 6 1) (sn "Timestamp.__init__") [] (vr 117) .none .none (vs "msgpack.ext" 352) none (vr 123) .none 0 3), #[]⟩
def o125_0 (P : Params) : Obj := ⟨(.type "tuple"), none, (.seq #[] 0), #[]⟩
def o126_0 (P : Params) : Obj := ⟨.none, none, (.fields #[]), #[]⟩
def o127_0 (P : Params) : Obj := ⟨(.type "tuple"), none, (.seq #[(vs "self" 436)] 0), #[]⟩
def o128_0 (P : Params) : Obj := ⟨(.type "tuple"), none, (.seq #[] 0), #[]⟩
def o129_0 (P : Params) : Obj := ⟨.none, none, (fO (mth 6 2) (sn "Timestamp.__repr__") [] .none .none .none .none none .none .none 0 0), #[]⟩
def o130_0 (P : Params) : Obj := ⟨(.type "code"), none, (.fields #[(vs "__repr__" 433), (vs "Timestamp.__repr__" 434), (vs "/claim/cut.py" 435), (vi 44), (vi 1), (vi 0), (vi 0), (vi 3), (vr 125), (.bool true), (vi 317), (vr 126), .none, (vr 127), (vr 128), (vr 129), (vi 437), (vi 44), (vs "/claim/cut.py" 438)]), #[]⟩
def o131_0 (P : Params) : Obj := ⟨(.type "function"), none, (fO (mth 6 2) (sn "Timestamp.__repr__") [] .none .none .none (vs "msgpack.ext" 352) none (vr 130) .none 0 3), #[]⟩
def o132_0 (P : Params) : Obj := ⟨(.type "tuple"), none, (.seq #[] 0), #[]⟩
def o133_0 (P : Params) : Obj := ⟨.none, none, (.fields #[]), #[]⟩
def o134_0 (P : Params) : Obj := ⟨(.type "tuple"), none, (.seq #[(vs "self" 443), (vs "other" 444)] 0), #[]⟩
def o135_0 (P : Params) : Obj := ⟨(.type "tuple"), none, (.seq #[] 0), #[]⟩
def o136_0 (P : Params) : Obj := ⟨.none, none, (fO (mth 6 3) (sn "Timestamp.__eq__") [] .none .none .none .none none .none .none 0 0), #[]⟩
def o137_0 (P : Params) : Obj := ⟨(.type "code"), none, (.fields #[(vs "__eq__" 440), (vs "Timestamp.__eq__" 441), (vs "/claim/cut.py" 442), (vi 47), (vi 2), (vi 0), (vi 0), (vi 3), (vr 132), (.bool true), (vi 317), (vr 133), .none, (vr 134), (vr 135), (vr 136), (vi 445), (vi 47), (vs "/claim/cut.py" 446)]), #[]⟩
def o138_0 (P : Params) : Obj := ⟨(.type "function"), none, (fO (mth 6 3) (sn "Timestamp.__eq__") [] .none .none .none (vs "msgpack.ext" 352) none (vr 137) .none 0 3), #[]⟩
def o139_0 (P : Params) : Obj := ⟨(.type "tuple"), none, (.seq #[] 0), #[]⟩
def o140_0 (P : Params) : Obj := ⟨.none, none, (.fields #[]), #[]⟩
def o141_0 (P : Params) : Obj := ⟨(.type "tuple"), none, (.seq #[(vs "self" 451), (vs "other" 452)] 0), #[]⟩
def o142_0 (P : Params) : Obj := ⟨(.type "tuple"), none, (.seq #[] 0), #[]⟩
def o143_0 (P : Params) : Obj := ⟨.none, none, (fO (mth 6 4) (sn "Timestamp.__ne__") [] .none .none .none .none none .none .none 0 0), #[]⟩
def o144_0 (P : Params) : Obj := ⟨(.type "code"), none, (.fields #[(vs "__ne__" 448), (vs "Timestamp.__ne__" 449), (vs "/claim/cut.py" 450), (vi 52), (vi 2), (vi 0), (vi 0), (vi 3), (vr 139), (.bool true), (vi 317), (vr 140), .none, (vr 141), (vr 142), (vr 143), (vi 453), (vi 52), (vs "/claim/cut.py" 454)]), #[]⟩
def o145_0 (P : Params) : Obj := ⟨(.type "function"), none, (fO (mth 6 4) (sn "Timestamp.__ne__") [] .none .none .none (vs "msgpack.ext" 352) none (vr 144) .none 0 3), #[]⟩
def o146_0 (P : Params) : Obj := ⟨(.type "tuple"), none, (.seq #[] 0), #[]⟩
def o147_0 (P : Params) : Obj := ⟨.none, none, (.fields #[]), #[]⟩
def o148_0 (P : Params) : Obj := ⟨(.type "tuple"), none, (.seq #[(vs "self" 459)] 0), #[]⟩
def o149_0 (P : Params) : Obj := ⟨(.type "tuple"), none, (.seq #[] 0), #[]⟩
def o150_0 (P : Params) : Obj := ⟨.none, none, (fO (mth 6 5) (sn "Timestamp.__hash__") [] .none .none .none .none none .none .none 0 0), #[]⟩
def o151_0 (P : Params) : Obj := ⟨(.type "code"), none, (.fields #[(vs "__hash__" 456), (vs "Timestamp.__hash__" 457), (vs "/claim/cut.py" 458), (vi 55), (vi 1), (vi 0), (vi 0), (vi 3), (vr 146), (.bool true), (vi 317), (vr 147), .none, (vr 148), (vr 149), (vr 150), (vi 460), (vi 55), (vs "/claim/cut.py" 461)]), #[]⟩
def o152_0 (P : Params) : Obj := ⟨(.type "function"), none, (fO (mth 6 5) (sn "Timestamp.__hash__") [] .none .none .none (vs "msgpack.ext" 352) none (vr 151) .none 0 3), #[]⟩
def o153_0 (P : Params) : Obj := ⟨(.type "tuple"), none, (.seq #[] 0), #[]⟩
def o154_0 (P : Params) : Obj := ⟨.none, none, (.fields #[]), #[]⟩
def o155_0 (P : Params) : Obj := ⟨(.type "tuple"), none, (.seq #[(vs "b" 466), (vs "seconds" 467), (vs "nanoseconds" 468), (vs "data64" 469)] 0), #[]⟩
def o156_0 (P : Params) : Obj := ⟨(.type "tuple"), none, (.seq #[] 0), #[]⟩
def o157_0 (P : Params) : Obj := ⟨.none, none, (fO (mth 6 6) (sn "Timestamp.from_bytes") [] .none .none .none .none none .none .none 0 0), #[]⟩
def o158_0 (P : Params) : Obj := ⟨(.type "code"), none, (.fields #[(vs "from_bytes" 463), (vs "Timestamp.from_bytes" 464), (vs "/claim/cut.py" 465), (vi 58), (vi 1), (vi 0), (vi 0), (vi 3), (vr 153), (.bool true), (vi 317), (vr 154), .none, (vr 155), (vr 156), (vr 157), (vi 470), (vi 58), (vs "/claim/cut.py" 471)]), #[]⟩
def o159_0 (P : Params) : Obj := ⟨(.type "function"), none, (fO (mth 6 6) (sn "Timestamp.from_bytes") [] .none .none .none (vs "msgpack.ext" 352) (some 162) (vr 158) .none 0 3), #[]⟩
def o160_0 (P : Params) : Obj := ⟨(.type "dict"), none, (.dict #[de P "__module__" 473 (vs "msgpack.ext" 352), de P "__name__" 476 (vs "from_bytes" 475), de P "__qualname__" 479 (vs "Timestamp.from_bytes" 478), de P "__doc__" 481 .none, de P "__annotations__" 483 (vr 162)] 5), #[]⟩
def o161_0 (P : Params) : Obj := ⟨(.type "staticmethod"), (some 160), (.fields #[(vr 159), (.bool false)]), #[]⟩
def o162_0 (P : Params) : Obj := ⟨(.type "dict"), none, (.dict #[] 0), #[]⟩
def o163_0 (P : Params) : Obj := ⟨(.type "tuple"), none, (.seq #[] 0), #[]⟩
def o164_0 (P : Params) : Obj := ⟨.none, none, (.fields #[]), #[]⟩
def o165_0 (P : Params) : Obj := ⟨(.type "tuple"), none, (.seq #[(vs "self" 488), (vs "data64" 489), (vs "data" 490)] 0), #[]⟩
def o166_0 (P : Params) : Obj := ⟨(.type "tuple"), none, (.seq #[] 0), #[]⟩
def o167_0 (P : Params) : Obj := ⟨.none, none, (fO (mth 6 7) (sn "Timestamp.to_bytes") [] .none .none .none .none none .none .none 0 0), #[]⟩
def o168_0 (P : Params) : Obj := ⟨(.type "code"), none, (.fields #[(vs "to_bytes" 485), (vs "Timestamp.to_bytes" 486), (vs "/claim/cut.py" 487), (vi 73), (vi 1), (vi 0), (vi 0), (vi 3), (vr 163), (.bool true), (vi 317), (vr 164), .none, (vr 165), (vr 166), (vr 167), (vi 491), (vi 73), (vs "/claim/cut.py" 492)]), #[]⟩
def o169_0 (P : Params) : Obj := ⟨(.type "function"), none, (fO (mth 6 7) (sn "Timestamp.to_bytes") [] .none .none .none (vs "msgpack.ext" 352) none (vr 168) .none 0 3), #[]⟩
def o170_0 (P : Params) : Obj := ⟨(.type "tuple"), none, (.seq #[] 0), #[]⟩
def o171_0 (P : Params) : Obj := ⟨.none, none, (.fields #[]), #[]⟩
def o172_0 (P : Params) : Obj := ⟨(.type "tuple"), none, (.seq #[(vs "unix_sec" 497)] 0), #[]⟩
def o173_0 (P : Params) : Obj := ⟨(.type "tuple"), none, (.seq #[] 0), #[]⟩
def o174_0 (P : Params) : Obj := ⟨.none, none, (fO (mth 6 8) (sn "Timestamp.from_unix") [] .none .none .none .none none .none .none 0 0), #[]⟩
def o175_0 (P : Params) : Obj := ⟨(.type "code"), none, (.fields #[(vs "from_unix" 494), (vs "Timestamp.from_unix" 495), (vs "/claim/cut.py" 496), (vi 84), (vi 1), (vi 0), (vi 0), (vi 3), (vr 170), (.bool true), (vi 317), (vr 171), .none, (vr 172), (vr 173), (vr 174), (vi 498), (vi 84), (vs "/claim/cut.py" 499)]), #[]⟩
def o176_0 (P : Params) : Obj := ⟨(.type "function"), none, (fO (mth 6 8) (sn "Timestamp.from_unix") [] .none .none .none (vs "msgpack.ext" 352) (some 179) (vr 175) .none 0 3), #[]⟩
def o177_0 (P : Params) : Obj := ⟨(.type "dict"), none, (.dict #[de P "__module__" 501 (vs "msgpack.ext" 352), de P "__name__" 504 (vs "from_unix" 503), de P "__qualname__" 507 (vs "Timestamp.from_unix" 506), de P "__doc__" 509 .none, de P "__annotations__" 511 (vr 179)] 5), #[]⟩
def o178_0 (P : Params) : Obj := ⟨(.type "staticmethod"), (some 177), (.fields #[(vr 176), (.bool false)]), #[]⟩
def o179_0 (P : Params) : Obj := ⟨(.type "dict"), none, (.dict #[] 0), #[]⟩
def o180_0 (P : Params) : Obj := ⟨(.type "tuple"), none, (.seq #[] 0), #[]⟩
def o181_0 (P : Params) : Obj := ⟨.none, none, (.fields #[]), #[]⟩
def o182_0 (P : Params) : Obj := ⟨(.type "tuple"), none, (.seq #[(vs "self" 516)] 0), #[]⟩
def o183_0 (P : Params) : Obj := ⟨(.type "tuple"), none, (.seq #[] 0), #[]⟩
def o184_0 (P : Params) : Obj := ⟨.none, none, (fO (mth 6 9) (sn "Timestamp.to_unix") [] .none .none .none .none none .none .none 0 0), #[]⟩
def o185_0 (P : Params) : Obj := ⟨(.type "code"), none, (.fields #[(vs "to_unix" 513), (vs "Timestamp.to_unix" 514), (vs "/claim/cut.py" 515), (vi 88), (vi 1), (vi 0), (vi 0), (vi 3), (vr 180), (.bool true), (vi 317), (vr 181), .none, (vr 182), (vr 183), (vr 184), (vi 517), (vi 88), (vs "/claim/cut.py" 518)]), #[]⟩
def o186_0 (P : Params) : Obj := ⟨(.type "function"), none, (fO (mth 6 9) (sn "Timestamp.to_unix") [] .none .none .none (vs "msgpack.ext" 352) none (vr 185) .none 0 3), #[]⟩
def o187_0 (P : Params) : Obj := ⟨(.type "tuple"), none, (.seq #[] 0), #[]⟩
def o188_0 (P : Params) : Obj := ⟨.none, none, (.fields #[]), #[]⟩
def o189_0 (P : Params) : Obj := ⟨(.type "tuple"), none, (.seq #[(vs "unix_ns" 523)] 0), #[]⟩
def o190_0 (P : Params) : Obj := ⟨(.type "tuple"), none, (.seq #[] 0), #[]⟩
def o191_0 (P : Params) : Obj := ⟨.none, none, (fO (mth 6 10) (sn "Timestamp.from_unix_nano") [] .none .none .none .none none .none .none 0 0), #[]⟩
def o192_0 (P : Params) : Obj := ⟨(.type "code"), none, (.fields #[(vs "from_unix_nano" 520), (vs "Timestamp.from_unix_nano" 521), (vs "/claim/cut.py" 522), (vi 91), (vi 1), (vi 0), (vi 0), (vi 3), (vr 187), (.bool true), (vi 317), (vr 188), .none, (vr 189), (vr 190), (vr 191), (vi 524), (vi 91), (vs "/claim/cut.py" 525)]), #[]⟩
def o193_0 (P : Params) : Obj := ⟨(.type "function"), none, (fO (mth 6 10) (sn "Timestamp.from_unix_nano") [] .none .none .none (vs "msgpack.ext" 352) (some 196) (vr 192) .none 0 3), #[]⟩
def o194_0 (P : Params) : Obj := ⟨(.type "dict"), none, (.dict #[de P "__module__" 527 (vs "msgpack.ext" 352), de P "__name__" 530 (vs "from_unix_nano" 529), de P "__qualname__" 533 (vs "Timestamp.from_unix_nano" 532), de P "__doc__" 535 .none, de P "__annotations__" 537 (vr 196)] 5), #[]⟩
def o195_0 (P : Params) : Obj := ⟨(.type "staticmethod"), (some 194), (.fields #[(vr 193), (.bool false)]), #[]⟩
def o196_0 (P : Params) : Obj := ⟨(.type "dict"), none, (.dict #[] 0), #[]⟩
def o197_0 (P : Params) : Obj := ⟨(.type "tuple"), none, (.seq #[] 0), #[]⟩
def o198_0 (P : Params) : Obj := ⟨.none, none, (.fields #[]), #[]⟩
def o199_0 (P : Params) : Obj := ⟨(.type "tuple"), none, (.seq #[(vs "self" 542)] 0), #[]⟩
def o200_0 (P : Params) : Obj := ⟨(.type "tuple"), none, (.seq #[] 0), #[]⟩
def o201_0 (P : Params) : Obj := ⟨.none, none, (fO (mth 6 11) (sn "Timestamp.to_unix_nano") [] .none .none .none .none none .none .none 0 0), #[]⟩
def o202_0 (P : Params) : Obj := ⟨(.type "code"), none, (.fields #[(vs "to_unix_nano" 539), (vs "Timestamp.to_unix_nano" 540), (vs "/claim/cut.py" 541), (vi 95), (vi 1), (vi 0), (vi 0), (vi 3), (vr 197), (.bool true), (vi 317), (vr 198), .none, (vr 199), (vr 200), (vr 201), (vi 543), (vi 95), (vs "/claim/cut.py" 544)]), #[]⟩
def o203_0 (P : Params) : Obj := ⟨(.type "function"), none, (fO (mth 6 11) (sn "Timestamp.to_unix_nano") [] .none .none .none (vs "msgpack.ext" 352) none (vr 202) .none 0 3), #[]⟩
def o204_0 (P : Params) : Obj := ⟨(.type "tuple"), none, (.seq #[(vs "nanoseconds" 546), (vs "seconds" 547)] 0), #[]⟩
def o205_0 (P : Params) : Obj := ⟨(.type "list"), none, (.seq #[(vs "seconds" 420), (vs "nanoseconds" 421)] 1), #[]⟩
def o206_0 (P : Params) : Obj := ⟨(.type "dict"), none, (.dict #[de P "__module__" 415 (vs "msgpack.ext" 352), de P "__firstlineno__" 419 (.int 31 418), de P "__slots__" 422 (vr 116), de P "__init__" 432 (vr 124), de P "__repr__" 439 (vr 131), de P "__eq__" 447 (vr 138), de P "__ne__" 455 (vr 145), de P "__hash__" 462 (vr 152), de P "from_bytes" 484 (vr 161), de P "to_bytes" 493 (vr 169), de P "from_unix" 512 (vr 178), de P "to_unix" 519 (vr 186), de P "from_unix_nano" 538 (vr 195), de P "to_unix_nano" 545 (vr 203), de P "__static_attributes__" 548 (vr 204), de P "nanoseconds" 550 (vr 208), de P "seconds" 552 (vr 209), de P "__doc__" 553 .none] 4), #[]⟩
def o207_0 (P : Params) : Obj := ⟨(.type "type"), none, (.cls { name := sn "Timestamp", bases := [(.type "object")], mro := [(vr 207), (.type "object")], ns := 206, qualname := sn "Timestamp", hasDict := false, slotNames := [sn "nanoseconds", sn "seconds"], subclasses := [], abstract := false, collection := none, hasDel := false }), #[none, none, (some (vs "Timestamp" 408)), (some (vs "Timestamp" 416)), (some (.builtin "object.__new__")), (some (.bool false))]⟩
def o208_0 (P : Params) : Obj := ⟨(.type "member_descriptor"), none, (.fields #[(vs "nanoseconds" 549), (vr 207), (.builtin "proto.slot"), (.builtin "proto.slot#set"), (vi 1)]), #[]⟩
def o209_0 (P : Params) : Obj := ⟨(.type "member_descriptor"), none, (.fields #[(vs "seconds" 551), (vr 207), (.builtin "proto.slot"), (.builtin "proto.slot#set"), (vi 0)]), #[]⟩
def o210_0 (P : Params) : Obj := ⟨(.type "super"), none, (.fields #[(vr 207), (vr 207), (vr 207)]), #[]⟩
def o211_0 (P : Params) : Obj := ⟨(.type "builtin_function_or_method"), none, (.fields #[(.builtin "object.__init_subclass__"), (vr 207)]), #[]⟩
def o212_0 (P : Params) : Obj := ⟨(.type "tuple"), none, (.seq #[] 0), #[]⟩
def o213_0 (P : Params) : Obj := ⟨.none, none, (.fields #[]), #[]⟩
def o214_0 (P : Params) : Obj := ⟨(.type "tuple"), none, (.seq #[(vs "obj" 563), (vs "t" 564)] 0), #[]⟩
def o215_0 (P : Params) : Obj := ⟨(.type "tuple"), none, (.seq #[(vs "obj" 565)] 0), #[]⟩
def o216_0 (P : Params) : Obj := ⟨.none, none, (fO (topS 9) (sn "_check_type_strict") [] .none .none .none .none none .none .none 0 0), #[]⟩
def o217_0 (P : Params) : Obj := ⟨(.type "code"), none, (.fields #[(vs "_check_type_strict" 560), (vs "_check_type_strict" 561), (vs "/claim/cut.py" 562), (vi 99), (vi 2), (vi 0), (vi 0), (vi 3), (vr 212), (.bool true), (vi 317), (vr 213), .none, (vr 214), (vr 215), (vr 216), (vi 566), (vi 99), (vs "/claim/cut.py" 567)]), #[]⟩
def o218_0 (P : Params) : Obj := ⟨(.type "function"), none, (fO (topS 9) (sn "_check_type_strict") [] .none .none .none (vs "msgpack.fallback" 556) none (vr 217) .none 0 3), #[]⟩
def o219_0 (P : Params) : Obj := ⟨(.type "tuple"), none, (.seq #[] 0), #[]⟩
def o220_0 (P : Params) : Obj := ⟨.none, none, (.fields #[]), #[]⟩
def o221_0 (P : Params) : Obj := ⟨(.type "tuple"), none, (.seq #[(vs "n" 574), (vs "what" 575)] 0), #[]⟩
def o222_0 (P : Params) : Obj := ⟨(.type "tuple"), none, (.seq #[] 0), #[]⟩
def o223_0 (P : Params) : Obj := ⟨.none, none, (fO (topS 11) (sn "_whence") [] .none .none .none .none none .none .none 0 0), #[]⟩
def o224_0 (P : Params) : Obj := ⟨(.type "code"), none, (.fields #[(vs "_whence" 571), (vs "_whence" 572), (vs "/claim/cut.py" 573), (vi 105), (vi 2), (vi 0), (vi 0), (vi 3), (vr 219), (.bool true), (vi 317), (vr 220), .none, (vr 221), (vr 222), (vr 223), (vi 576), (vi 105), (vs "/claim/cut.py" 577)]), #[]⟩
def o225_0 (P : Params) : Obj := ⟨(.type "function"), none, (fO (topS 11) (sn "_whence") [] .none .none .none (vs "io" 569) none (vr 224) .none 0 3), #[]⟩
def o226_0 (P : Params) : Obj := ⟨(.type "tuple"), none, (.seq #[] 0), #[]⟩
def o227_0 (P : Params) : Obj := ⟨.none, none, (.fields #[]), #[]⟩
def o228_0 (P : Params) : Obj := ⟨(.type "tuple"), none, (.seq #[(vs "n" 582), (vs "what" 583)] 0), #[]⟩
def o229_0 (P : Params) : Obj := ⟨(.type "tuple"), none, (.seq #[] 0), #[]⟩
def o230_0 (P : Params) : Obj := ⟨.none, none, (fO (topS 12) (sn "_index") [] .none .none .none .none none .none .none 0 0), #[]⟩
def o231_0 (P : Params) : Obj := ⟨(.type "code"), none, (.fields #[(vs "_index" 579), (vs "_index" 580), (vs "/claim/cut.py" 581), (vi 110), (vi 2), (vi 0), (vi 0), (vi 3), (vr 226), (.bool true), (vi 317), (vr 227), .none, (vr 228), (vr 229), (vr 230), (vi 584), (vi 110), (vs "/claim/cut.py" 585)]), #[]⟩
def o232_0 (P : Params) : Obj := ⟨(.type "function"), none, (fO (topS 12) (sn "_index") [] .none .none .none (vs "io" 569) none (vr 231) .none 0 3), #[]⟩
def o233_0 (P : Params) : Obj := ⟨(.type "tuple"), none, (.seq #[(.type "OSError"), (.type "ValueError")] 0), #[]⟩
def o234_0 (P : Params) : Obj := ⟨(.type "builtin_function_or_method"), none, (.fields #[(.builtin "type.__prepare__"), (.type "type")]), #[]⟩
def o235_0 (P : Params) : Obj := ⟨(.type "dict"), none, (.dict #[de P "__module__" 594 (vs "io" 599), de P "__qualname__" 596 (vs "UnsupportedOperation" 595), de P "__firstlineno__" 598 (.int 117 597), de P "__static_attributes__" 601 (vr 240)] 4), #[]⟩
def o236_0 (P : Params) : Obj := ⟨(.type "tuple"), none, (.seq #[] 0), #[]⟩
def o237_0 (P : Params) : Obj := ⟨.none, none, (.fields #[]), #[]⟩
def o238_0 (P : Params) : Obj := ⟨(.type "code"), none, (.fields #[(vs "UnsupportedOperation" 589), (vs "UnsupportedOperation" 590), (vs "/claim/cut.py" 591), (vi 117), (vi 0), (vi 0), (vi 0), (vi 0), (vr 236), (.bool false), (vi 317), (vr 237), .none, .none, .none, .none, (vi 592), (vi 117), (vs "/claim/cut.py" 593)]), #[]⟩
def o239_0 (P : Params) : Obj := ⟨(.type "frame"), none, .plain, #[(some (vr 238)), (some (vr 3)), (some (vr 235)), none, (some (vs "io" 569)), none, (some (vr 0))]⟩
def o240_0 (P : Params) : Obj := ⟨(.type "tuple"), none, (.seq #[] 0), #[]⟩
def o241_0 (P : Params) : Obj := ⟨(.type "dict"), none, (.dict #[de P "__module__" 594 (vs "io" 599), de P "__firstlineno__" 598 (.int 117 597), de P "__static_attributes__" 601 (vr 240), de P "__weakref__" 603 (vr 243), de P "__doc__" 604 .none] 3), #[]⟩
def o242_0 (P : Params) : Obj := ⟨(.type "type"), none, (.cls { name := sn "UnsupportedOperation", bases := [(.type "OSError"), (.type "ValueError")], mro := [(vr 242), (.type "OSError"), (.type "ValueError"), (.type "Exception"), (.type "BaseException"), (.type "object")], ns := 241, qualname := sn "UnsupportedOperation", hasDict := true, slotNames := [], subclasses := [], abstract := false, collection := none, hasDel := false }), #[(some (vr 233)), none, (some (vs "UnsupportedOperation" 587)), (some (vs "UnsupportedOperation" 595)), (some (.builtin "OSError.__new__")), (some (.bool true))]⟩
def o243_0 (P : Params) : Obj := ⟨(.type "getset_descriptor"), none, (.fields #[(vs "__weakref__" 602), (vr 242), (.builtin "ExceptionGroup.__weakref__"), .none]), #[]⟩
def o244_0 (P : Params) : Obj := ⟨(.type "super"), none, (.fields #[(vr 242), (vr 242), (vr 242)]), #[]⟩
def o245_0 (P : Params) : Obj := ⟨(.type "builtin_function_or_method"), none, (.fields #[(.builtin "object.__init_subclass__"), (vr 242)]), #[]⟩
def o246_0 (P : Params) : Obj := ⟨(.type "tuple"), none, (.seq #[] 0), #[]⟩
def o247_0 (P : Params) : Obj := ⟨(.type "builtin_function_or_method"), none, (.fields #[(.builtin "type.__prepare__"), (.type "type")]), #[]⟩
def o248_0 (P : Params) : Obj := ⟨(.type "dict"), none, (.dict #[de P "__module__" 616 (vs "io" 621), de P "__qualname__" 618 (vs "IOBase" 617), de P "__firstlineno__" 620 (.int 119 619), de P "__new__" 631 (vr 259), de P "__static_attributes__" 632 (vr 260)] 5), #[]⟩
def o249_0 (P : Params) : Obj := ⟨(.type "tuple"), none, (.seq #[] 0), #[]⟩
def o250_0 (P : Params) : Obj := ⟨.none, none, (.fields #[(vi 122), (vi 4), (vr 258)]), #[]⟩
def o251_0 (P : Params) : Obj := ⟨(.type "code"), none, (.fields #[(vs "IOBase" 611), (vs "IOBase" 612), (vs "/claim/cut.py" 613), (vi 119), (vi 0), (vi 0), (vi 0), (vi 0), (vr 249), (.bool false), (vi 317), (vr 250), .none, .none, .none, .none, (vi 614), (vi 119), (vs "/claim/cut.py" 615)]), #[]⟩
def o252_0 (P : Params) : Obj := ⟨(.type "frame"), none, .plain, #[(some (vr 251)), (some (vr 3)), (some (vr 248)), none, (some (vs "io" 569)), none, (some (vr 0))]⟩
def o253_0 (P : Params) : Obj := ⟨(.type "tuple"), none, (.seq #[] 0), #[]⟩
def o254_0 (P : Params) : Obj := ⟨.none, none, (.fields #[]), #[]⟩
def o255_0 (P : Params) : Obj := ⟨(.type "tuple"), none, (.seq #[(vs "cls" 626), (vs "args" 627), (vs "kwargs" 628)] 0), #[]⟩
def o256_0 (P : Params) : Obj := ⟨(.type "tuple"), none, (.seq #[] 0), #[]⟩
def o257_0 (P : Params) : Obj := ⟨.none, none, (fO (mth 14 1) (sn "IOBase.__new__") [] .none .none .none .none none .none .none 0 0), #[]⟩
def o258_0 (P : Params) : Obj := ⟨(.type "code"), none, (.fields #[(vs "__new__" 623), (vs "IOBase.__new__" 624), (vs "/claim/cut.py" 625), (vi 122), (vi 1), (vi 1), (vi 0), (vi 15), (vr 253), (.bool true), (vi 317), (vr 254), .none, (vr 255), (vr 256), (vr 257), (vi 629), (vi 122), (vs "/claim/cut.py" 630)]), #[]⟩
def o259_0 (P : Params) : Obj := ⟨(.type "function"), none, (fO (mth 14 1) (sn "IOBase.__new__") [] .none .none .none (vs "io" 569) none (vr 258) .none 0 3), #[]⟩
def o260_0 (P : Params) : Obj := ⟨(.type "tuple"), none, (.seq #[] 0), #[]⟩
def o261_0 (P : Params) : Obj := ⟨(.type "dict"), none, (.dict #[de P "__module__" 616 (vs "io" 621), de P "__firstlineno__" 620 (.int 119 619), de P "__new__" 631 (vr 263), de P "__static_attributes__" 632 (vr 260), de P "__dict__" 635 (vr 264), de P "__weakref__" 637 (vr 265), de P "__doc__" 638 .none] 4), #[]⟩
def o262_0 (P : Params) : Obj := ⟨(.type "type"), none, (.cls { name := sn "IOBase", bases := [(.type "object")], mro := [(vr 262), (.type "object")], ns := 261, qualname := sn "IOBase", hasDict := true, slotNames := [], subclasses := [(vr 277), (vr 289)], abstract := false, collection := none, hasDel := false }), #[none, none, (some (vs "IOBase" 609)), (some (vs "IOBase" 617)), (some .none), (some (.bool true))]⟩
def o263_0 (P : Params) : Obj := ⟨(.type "staticmethod"), none, (.fields #[(vr 259)]), #[]⟩
def o264_0 (P : Params) : Obj := ⟨(.type "getset_descriptor"), none, (.fields #[(vs "__dict__" 634), (vr 262), (.builtin "function.__dict__"), (.builtin "function.__dict__#set")]), #[]⟩
def o265_0 (P : Params) : Obj := ⟨(.type "getset_descriptor"), none, (.fields #[(vs "__weakref__" 636), (vr 262), (.builtin "ExceptionGroup.__weakref__"), .none]), #[]⟩
def o266_0 (P : Params) : Obj := ⟨(.type "super"), none, (.fields #[(vr 262), (vr 262), (vr 262)]), #[]⟩
def o267_0 (P : Params) : Obj := ⟨(.type "builtin_function_or_method"), none, (.fields #[(.builtin "object.__init_subclass__"), (vr 262)]), #[]⟩
def o268_0 (P : Params) : Obj := ⟨(.type "tuple"), none, (.seq #[(vr 262)] 0), #[]⟩
def o269_0 (P : Params) : Obj := ⟨(.type "builtin_function_or_method"), none, (.fields #[(.builtin "type.__prepare__"), (.type "type")]), #[]⟩
def o270_0 (P : Params) : Obj := ⟨(.type "dict"), none, (.dict #[de P "__module__" 648 (vs "io" 653), de P "__qualname__" 650 (vs "BufferedIOBase" 649), de P "__firstlineno__" 652 (.int 126 651), de P "__static_attributes__" 655 (vr 275)] 4), #[]⟩
def o271_0 (P : Params) : Obj := ⟨(.type "tuple"), none, (.seq #[] 0), #[]⟩
def o272_0 (P : Params) : Obj := ⟨.none, none, (.fields #[]), #[]⟩
def o273_0 (P : Params) : Obj := ⟨(.type "code"), none, (.fields #[(vs "BufferedIOBase" 643), (vs "BufferedIOBase" 644), (vs "/claim/cut.py" 645), (vi 126), (vi 0), (vi 0), (vi 0), (vi 0), (vr 271), (.bool false), (vi 317), (vr 272), .none, .none, .none, .none, (vi 646), (vi 126), (vs "/claim/cut.py" 647)]), #[]⟩
def o274_0 (P : Params) : Obj := ⟨(.type "frame"), none, .plain, #[(some (vr 273)), (some (vr 3)), (some (vr 270)), none, (some (vs "io" 569)), none, (some (vr 0))]⟩
def o275_0 (P : Params) : Obj := ⟨(.type "tuple"), none, (.seq #[] 0), #[]⟩
def o276_0 (P : Params) : Obj := ⟨(.type "dict"), none, (.dict #[de P "__module__" 648 (vs "io" 653), de P "__firstlineno__" 652 (.int 126 651), de P "__static_attributes__" 655 (vr 275), de P "__doc__" 656 .none] 2), #[]⟩
def o277_0 (P : Params) : Obj := ⟨(.type "type"), none, (.cls { name := sn "BufferedIOBase", bases := [(vr 262)], mro := [(vr 277), (vr 262), (.type "object")], ns := 276, qualname := sn "BufferedIOBase", hasDict := true, slotNames := [], subclasses := [(vr 519)], abstract := false, collection := none, hasDel := false }), #[(some (vr 268)), none, (some (vs "BufferedIOBase" 641)), (some (vs "BufferedIOBase" 649)), (some .none), (some (.bool true))]⟩
def o278_0 (P : Params) : Obj := ⟨(.type "super"), none, (.fields #[(vr 277), (vr 277), (vr 277)]), #[]⟩
def o279_0 (P : Params) : Obj := ⟨(.type "builtin_function_or_method"), none, (.fields #[(.builtin "object.__init_subclass__"), (vr 277)]), #[]⟩
def o280_0 (P : Params) : Obj := ⟨(.type "tuple"), none, (.seq #[(vr 262)] 0), #[]⟩
def o281_0 (P : Params) : Obj := ⟨(.type "builtin_function_or_method"), none, (.fields #[(.builtin "type.__prepare__"), (.type "type")]), #[]⟩
def o282_0 (P : Params) : Obj := ⟨(.type "dict"), none, (.dict #[de P "__module__" 666 (vs "io" 671), de P "__qualname__" 668 (vs "TextIOBase" 667), de P "__firstlineno__" 670 (.int 128 669), de P "__static_attributes__" 673 (vr 287)] 4), #[]⟩
def o283_0 (P : Params) : Obj := ⟨(.type "tuple"), none, (.seq #[] 0), #[]⟩
def o284_0 (P : Params) : Obj := ⟨.none, none, (.fields #[]), #[]⟩
def o285_0 (P : Params) : Obj := ⟨(.type "code"), none, (.fields #[(vs "TextIOBase" 661), (vs "TextIOBase" 662), (vs "/claim/cut.py" 663), (vi 128), (vi 0), (vi 0), (vi 0), (vi 0), (vr 283), (.bool false), (vi 317), (vr 284), .none, .none, .none, .none, (vi 664), (vi 128), (vs "/claim/cut.py" 665)]), #[]⟩
def o286_0 (P : Params) : Obj := ⟨(.type "frame"), none, .plain, #[(some (vr 285)), (some (vr 3)), (some (vr 282)), none, (some (vs "io" 569)), none, (some (vr 0))]⟩
def o287_0 (P : Params) : Obj := ⟨(.type "tuple"), none, (.seq #[] 0), #[]⟩
def o288_0 (P : Params) : Obj := ⟨(.type "dict"), none, (.dict #[de P "__module__" 666 (vs "io" 671), de P "__firstlineno__" 670 (.int 128 669), de P "__static_attributes__" 673 (vr 287), de P "__doc__" 674 .none] 2), #[]⟩
def o289_0 (P : Params) : Obj := ⟨(.type "type"), none, (.cls { name := sn "TextIOBase", bases := [(vr 262)], mro := [(vr 289), (vr 262), (.type "object")], ns := 288, qualname := sn "TextIOBase", hasDict := true, slotNames := [], subclasses := [], abstract := false, collection := none, hasDel := false }), #[(some (vr 280)), none, (some (vs "TextIOBase" 659)), (some (vs "TextIOBase" 667)), (some .none), (some (.bool true))]⟩
def o290_0 (P : Params) : Obj := ⟨(.type "super"), none, (.fields #[(vr 289), (vr 289), (vr 289)]), #[]⟩
def o291_0 (P : Params) : Obj := ⟨(.type "builtin_function_or_method"), none, (.fields #[(.builtin "object.__init_subclass__"), (vr 289)]), #[]⟩
def o292_0 (P : Params) : Obj := ⟨(.type "tuple"), none, (.seq #[(vr 277)] 0), #[]⟩
def o293_0 (P : Params) : Obj := ⟨(.type "builtin_function_or_method"), none, (.fields #[(.builtin "type.__prepare__"), (.type "type")]), #[]⟩
def o294_0 (P : Params) : Obj := ⟨(.type "dict"), none, (.dict #[de P "__module__" 684 (vs "_io" 689), de P "__qualname__" 686 (vs "BytesIO" 685), de P "__firstlineno__" 688 (.int 130 687), de P "__init__" 698 (vr 306), de P "_BytesIO__check" 705 (vr 313), de P "_BytesIO__line" 716 (vr 320), de P "closed" 724 (vr 328), de P "close" 731 (vr 335), de P "__enter__" 738 (vr 342), de P "__exit__" 746 (vr 349), de P "readable" 753 (vr 356), de P "writable" 760 (vr 363), de P "seekable" 767 (vr 370), de P "isatty" 774 (vr 377), de P "flush" 781 (vr 384), de P "fileno" 788 (vr 391), de P "detach" 795 (vr 398), de P "getvalue" 802 (vr 405), de P "getbuffer" 809 (vr 412), de P "tell" 816 (vr 419), de P "seek" 826 (vr 427), de P "truncate" 834 (vr 435), de P "read" 846 (vr 443), de P "read1" 856 (vr 451), de P "readinto" 866 (vr 458), de P "readinto1" 874 (vr 465), de P "readline" 884 (vr 473), de P "readlines" 892 (vr 481), de P "__iter__" 899 (vr 488), de P "__next__" 907 (vr 495), de P "write" 917 (vr 502), de P "writelines" 925 (vr 509), de P "__repr__" 932 (vr 516), de P "__static_attributes__" 935 (vr 517)] 34), #[]⟩
def o295_0 (P : Params) : Obj := ⟨(.type "tuple"), none, (.seq #[] 0), #[]⟩
def o296_0 (P : Params) : Obj := ⟨.none, none, (.fields #[(vi 133), (vi 4), (vr 305), (vi 139), (vi 4), (vr 312), (vi 143), (vi 4), (vr 319), (vi 157), (vi 4), (vr 326), (vi 160), (vi 4), (vr 334), (vi 163), (vi 4), (vr 341), (vi 167), (vi 4), (vr 348), (vi 170), (vi 4), (vr 355), (vi 174), (vi 4), (vr 362), (vi 178), (vi 4), (vr 369), (vi 182), (vi 4), (vr 376), (vi 186), (vi 4), (vr 383), (vi 189), (vi 4), (vr 390), (vi 192), (vi 4), (vr 397), (vi 195), (vi 4), (vr 404), (vi 199), (vi 4), (vr 411), (vi 202), (vi 4), (vr 418), (vi 206), (vi 4), (vr 426), (vi 223), (vi 4), (vr 434), (vi 226), (vi 4), (vr 442), (vi 240), (vi 4), (vr 450), (vi 243), (vi 4), (vr 457), (vi 257), (vi 4), (vr 464), (vi 260), (vi 4), (vr 472), (vi 267), (vi 4), (vr 480), (vi 270), (vi 4), (vr 487), (vi 273), (vi 4), (vr 494), (vi 280), (vi 4), (vr 501), (vi 296), (vi 4), (vr 508), (vi 299), (vi 4), (vr 515)]), #[]⟩
def o297_0 (P : Params) : Obj := ⟨(.type "code"), none, (.fields #[(vs "BytesIO" 679), (vs "BytesIO" 680), (vs "/claim/cut.py" 681), (vi 130), (vi 0), (vi 0), (vi 0), (vi 0), (vr 295), (.bool false), (vi 317), (vr 296), .none, .none, .none, .none, (vi 682), (vi 130), (vs "/claim/cut.py" 683)]), #[]⟩
def o298_0 (P : Params) : Obj := ⟨(.type "frame"), none, .plain, #[(some (vr 297)), (some (vr 3)), (some (vr 294)), none, (some (vs "io" 569)), none, (some (vr 0))]⟩
def o299_0 (P : Params) : Obj := ⟨(.type "tuple"), none, (.seq #[.none] 0), #[]⟩
def o300_0 (P : Params) : Obj := ⟨(.type "tuple"), none, (.seq #[] 0), #[]⟩
def o301_0 (P : Params) : Obj := ⟨.none, none, (.fields #[]), #[]⟩
def o302_0 (P : Params) : Obj := ⟨(.type "tuple"), none, (.seq #[(vs "self" 694), (vs "initial_bytes" 695)] 0), #[]⟩
def o303_0 (P : Params) : Obj := ⟨(.type "tuple"), none, (.seq #[] 0), #[]⟩
def o304_0 (P : Params) : Obj := ⟨.none, none, (fO (mth 17 1) (sn "BytesIO.__init__") [] .none .none .none .none none .none .none 0 0), #[]⟩
def o305_0 (P : Params) : Obj := ⟨(.type "code"), none, (.fields #[(vs "__init__" 691), (vs "BytesIO.__init__" 692), (vs "/claim/cut.py" 693), (vi 133), (vi 2), (vi 0), (vi 0), (vi 3), (vr 300), (.bool true), (vi 317), (vr 301), .none, (vr 302), (vr 303), (vr 304), (vi 696), (vi 133), (vs "/claim/cut.py" 697)]), #[]⟩
def o306_0 (P : Params) : Obj := ⟨(.type "function"), none, (fO (mth 17 1) (sn "BytesIO.__init__") [] (vr 299) .none .none (vs "io" 569) none (vr 305) .none 0 3), #[]⟩
def o307_0 (P : Params) : Obj := ⟨(.type "tuple"), none, (.seq #[] 0), #[]⟩
def o308_0 (P : Params) : Obj := ⟨.none, none, (.fields #[]), #[]⟩
def o309_0 (P : Params) : Obj := ⟨(.type "tuple"), none, (.seq #[(vs "self" 702)] 0), #[]⟩
def o310_0 (P : Params) : Obj := ⟨(.type "tuple"), none, (.seq #[] 0), #[]⟩
def o311_0 (P : Params) : Obj := ⟨.none, none, (fO (mth 17 2) (sn "BytesIO.__check") [] .none .none .none .none none .none .none 0 0), #[]⟩
def o312_0 (P : Params) : Obj := ⟨(.type "code"), none, (.fields #[(vs "__check" 699), (vs "BytesIO.__check" 700), (vs "/claim/cut.py" 701), (vi 139), (vi 1), (vi 0), (vi 0), (vi 3), (vr 307), (.bool true), (vi 317), (vr 308), .none, (vr 309), (vr 310), (vr 311), (vi 703), (vi 139), (vs "/claim/cut.py" 704)]), #[]⟩
def o313_0 (P : Params) : Obj := ⟨(.type "function"), none, (fO (mth 17 2) (sn "BytesIO.__check") [] .none .none .none (vs "io" 569) none (vr 312) .none 0 3), #[]⟩
def o314_0 (P : Params) : Obj := ⟨(.type "tuple"), none, (.seq #[] 0), #[]⟩
def o315_0 (P : Params) : Obj := ⟨.none, none, (.fields #[]), #[]⟩
def o316_0 (P : Params) : Obj := ⟨(.type "tuple"), none, (.seq #[(vs "self" 709), (vs "limit" 710), (vs "start" 711), (vs "stop" 712), (vs "i" 713)] 0), #[]⟩
def o317_0 (P : Params) : Obj := ⟨(.type "tuple"), none, (.seq #[] 0), #[]⟩
def o318_0 (P : Params) : Obj := ⟨.none, none, (fO (mth 17 3) (sn "BytesIO.__line") [] .none .none .none .none none .none .none 0 0), #[]⟩
def o319_0 (P : Params) : Obj := ⟨(.type "code"), none, (.fields #[(vs "__line" 706), (vs "BytesIO.__line" 707), (vs "/claim/cut.py" 708), (vi 143), (vi 2), (vi 0), (vi 0), (vi 3), (vr 314), (.bool true), (vi 317), (vr 315), .none, (vr 316), (vr 317), (vr 318), (vi 714), (vi 143), (vs "/claim/cut.py" 715)]), #[]⟩
def o320_0 (P : Params) : Obj := ⟨(.type "function"), none, (fO (mth 17 3) (sn "BytesIO.__line") [] .none .none .none (vs "io" 569) none (vr 319) .none 0 3), #[]⟩
def o321_0 (P : Params) : Obj := ⟨(.type "tuple"), none, (.seq #[] 0), #[]⟩
def o322_0 (P : Params) : Obj := ⟨.none, none, (.fields #[]), #[]⟩
def o323_0 (P : Params) : Obj := ⟨(.type "tuple"), none, (.seq #[(vs "self" 720)] 0), #[]⟩
def o324_0 (P : Params) : Obj := ⟨(.type "tuple"), none, (.seq #[] 0), #[]⟩
def o325_0 (P : Params) : Obj := ⟨.none, none, (fO (mth 17 4) (sn "BytesIO.closed") [] .none .none .none .none none .none .none 0 0), #[]⟩
def o326_0 (P : Params) : Obj := ⟨(.type "code"), none, (.fields #[(vs "closed" 717), (vs "BytesIO.closed" 718), (vs "/claim/cut.py" 719), (vi 156), (vi 1), (vi 0), (vi 0), (vi 3), (vr 321), (.bool true), (vi 317), (vr 322), .none, (vr 323), (vr 324), (vr 325), (vi 721), (vi 156), (vs "/claim/cut.py" 722)]), #[]⟩
def o327_0 (P : Params) : Obj := ⟨(.type "function"), none, (fO (mth 17 4) (sn "BytesIO.closed") [] .none .none .none (vs "io" 569) none (vr 326) .none 0 3), #[]⟩
def o328_0 (P : Params) : Obj := ⟨(.type "property"), none, (.fields #[(vr 327), .none, .none, .none, (vs "closed" 724), (.bool false)]), #[]⟩
def o329_0 (P : Params) : Obj := ⟨(.type "tuple"), none, (.seq #[] 0), #[]⟩
def o330_0 (P : Params) : Obj := ⟨.none, none, (.fields #[]), #[]⟩
def o331_0 (P : Params) : Obj := ⟨(.type "tuple"), none, (.seq #[(vs "self" 728)] 0), #[]⟩
def o332_0 (P : Params) : Obj := ⟨(.type "tuple"), none, (.seq #[] 0), #[]⟩
def o333_0 (P : Params) : Obj := ⟨.none, none, (fO (mth 17 5) (sn "BytesIO.close") [] .none .none .none .none none .none .none 0 0), #[]⟩
def o334_0 (P : Params) : Obj := ⟨(.type "code"), none, (.fields #[(vs "close" 725), (vs "BytesIO.close" 726), (vs "/claim/cut.py" 727), (vi 160), (vi 1), (vi 0), (vi 0), (vi 3), (vr 329), (.bool true), (vi 317), (vr 330), .none, (vr 331), (vr 332), (vr 333), (vi 729), (vi 160), (vs "/claim/cut.py" 730)]), #[]⟩
def o335_0 (P : Params) : Obj := ⟨(.type "function"), none, (fO (mth 17 5) (sn "BytesIO.close") [] .none .none .none (vs "io" 569) none (vr 334) .none 0 3), #[]⟩
def o336_0 (P : Params) : Obj := ⟨(.type "tuple"), none, (.seq #[] 0), #[]⟩
def o337_0 (P : Params) : Obj := ⟨.none, none, (.fields #[]), #[]⟩
def o338_0 (P : Params) : Obj := ⟨(.type "tuple"), none, (.seq #[(vs "self" 735)] 0), #[]⟩
def o339_0 (P : Params) : Obj := ⟨(.type "tuple"), none, (.seq #[] 0), #[]⟩
def o340_0 (P : Params) : Obj := ⟨.none, none, (fO (mth 17 6) (sn "BytesIO.__enter__") [] .none .none .none .none none .none .none 0 0), #[]⟩
def o341_0 (P : Params) : Obj := ⟨(.type "code"), none, (.fields #[(vs "__enter__" 732), (vs "BytesIO.__enter__" 733), (vs "/claim/cut.py" 734), (vi 163), (vi 1), (vi 0), (vi 0), (vi 3), (vr 336), (.bool true), (vi 317), (vr 337), .none, (vr 338), (vr 339), (vr 340), (vi 736), (vi 163), (vs "/claim/cut.py" 737)]), #[]⟩
def o342_0 (P : Params) : Obj := ⟨(.type "function"), none, (fO (mth 17 6) (sn "BytesIO.__enter__") [] .none .none .none (vs "io" 569) none (vr 341) .none 0 3), #[]⟩
def o343_0 (P : Params) : Obj := ⟨(.type "tuple"), none, (.seq #[] 0), #[]⟩
def o344_0 (P : Params) : Obj := ⟨.none, none, (.fields #[]), #[]⟩
def o345_0 (P : Params) : Obj := ⟨(.type "tuple"), none, (.seq #[(vs "self" 742), (vs "args" 743)] 0), #[]⟩
def o346_0 (P : Params) : Obj := ⟨(.type "tuple"), none, (.seq #[] 0), #[]⟩
def o347_0 (P : Params) : Obj := ⟨.none, none, (fO (mth 17 7) (sn "BytesIO.__exit__") [] .none .none .none .none none .none .none 0 0), #[]⟩
def o348_0 (P : Params) : Obj := ⟨(.type "code"), none, (.fields #[(vs "__exit__" 739), (vs "BytesIO.__exit__" 740), (vs "/claim/cut.py" 741), (vi 167), (vi 1), (vi 0), (vi 0), (vi 7), (vr 343), (.bool true), (vi 317), (vr 344), .none, (vr 345), (vr 346), (vr 347), (vi 744), (vi 167), (vs "/claim/cut.py" 745)]), #[]⟩
def o349_0 (P : Params) : Obj := ⟨(.type "function"), none, (fO (mth 17 7) (sn "BytesIO.__exit__") [] .none .none .none (vs "io" 569) none (vr 348) .none 0 3), #[]⟩
def o350_0 (P : Params) : Obj := ⟨(.type "tuple"), none, (.seq #[] 0), #[]⟩
def o351_0 (P : Params) : Obj := ⟨.none, none, (.fields #[]), #[]⟩
def o352_0 (P : Params) : Obj := ⟨(.type "tuple"), none, (.seq #[(vs "self" 750)] 0), #[]⟩
def o353_0 (P : Params) : Obj := ⟨(.type "tuple"), none, (.seq #[] 0), #[]⟩
def o354_0 (P : Params) : Obj := ⟨.none, none, (fO (mth 17 8) (sn "BytesIO.readable") [] .none .none .none .none none .none .none 0 0), #[]⟩
def o355_0 (P : Params) : Obj := ⟨(.type "code"), none, (.fields #[(vs "readable" 747), (vs "BytesIO.readable" 748), (vs "/claim/cut.py" 749), (vi 170), (vi 1), (vi 0), (vi 0), (vi 3), (vr 350), (.bool true), (vi 317), (vr 351), .none, (vr 352), (vr 353), (vr 354), (vi 751), (vi 170), (vs "/claim/cut.py" 752)]), #[]⟩
def o356_0 (P : Params) : Obj := ⟨(.type "function"), none, (fO (mth 17 8) (sn "BytesIO.readable") [] .none .none .none (vs "io" 569) none (vr 355) .none 0 3), #[]⟩
def o357_0 (P : Params) : Obj := ⟨(.type "tuple"), none, (.seq #[] 0), #[]⟩
def o358_0 (P : Params) : Obj := ⟨.none, none, (.fields #[]), #[]⟩
def o359_0 (P : Params) : Obj := ⟨(.type "tuple"), none, (.seq #[(vs "self" 757)] 0), #[]⟩
def o360_0 (P : Params) : Obj := ⟨(.type "tuple"), none, (.seq #[] 0), #[]⟩
def o361_0 (P : Params) : Obj := ⟨.none, none, (fO (mth 17 9) (sn "BytesIO.writable") [] .none .none .none .none none .none .none 0 0), #[]⟩
def o362_0 (P : Params) : Obj := ⟨(.type "code"), none, (.fields #[(vs "writable" 754), (vs "BytesIO.writable" 755), (vs "/claim/cut.py" 756), (vi 174), (vi 1), (vi 0), (vi 0), (vi 3), (vr 357), (.bool true), (vi 317), (vr 358), .none, (vr 359), (vr 360), (vr 361), (vi 758), (vi 174), (vs "/claim/cut.py" 759)]), #[]⟩
def o363_0 (P : Params) : Obj := ⟨(.type "function"), none, (fO (mth 17 9) (sn "BytesIO.writable") [] .none .none .none (vs "io" 569) none (vr 362) .none 0 3), #[]⟩
def o364_0 (P : Params) : Obj := ⟨(.type "tuple"), none, (.seq #[] 0), #[]⟩
def o365_0 (P : Params) : Obj := ⟨.none, none, (.fields #[]), #[]⟩
def o366_0 (P : Params) : Obj := ⟨(.type "tuple"), none, (.seq #[(vs "self" 764)] 0), #[]⟩
def o367_0 (P : Params) : Obj := ⟨(.type "tuple"), none, (.seq #[] 0), #[]⟩
def o368_0 (P : Params) : Obj := ⟨.none, none, (fO (mth 17 10) (sn "BytesIO.seekable") [] .none .none .none .none none .none .none 0 0), #[]⟩
def o369_0 (P : Params) : Obj := ⟨(.type "code"), none, (.fields #[(vs "seekable" 761), (vs "BytesIO.seekable" 762), (vs "/claim/cut.py" 763), (vi 178), (vi 1), (vi 0), (vi 0), (vi 3), (vr 364), (.bool true), (vi 317), (vr 365), .none, (vr 366), (vr 367), (vr 368), (vi 765), (vi 178), (vs "/claim/cut.py" 766)]), #[]⟩
def o370_0 (P : Params) : Obj := ⟨(.type "function"), none, (fO (mth 17 10) (sn "BytesIO.seekable") [] .none .none .none (vs "io" 569) none (vr 369) .none 0 3), #[]⟩
def o371_0 (P : Params) : Obj := ⟨(.type "tuple"), none, (.seq #[] 0), #[]⟩
def o372_0 (P : Params) : Obj := ⟨.none, none, (.fields #[]), #[]⟩
def o373_0 (P : Params) : Obj := ⟨(.type "tuple"), none, (.seq #[(vs "self" 771)] 0), #[]⟩
def o374_0 (P : Params) : Obj := ⟨(.type "tuple"), none, (.seq #[] 0), #[]⟩
def o375_0 (P : Params) : Obj := ⟨.none, none, (fO (mth 17 11) (sn "BytesIO.isatty") [] .none .none .none .none none .none .none 0 0), #[]⟩
def o376_0 (P : Params) : Obj := ⟨(.type "code"), none, (.fields #[(vs "isatty" 768), (vs "BytesIO.isatty" 769), (vs "/claim/cut.py" 770), (vi 182), (vi 1), (vi 0), (vi 0), (vi 3), (vr 371), (.bool true), (vi 317), (vr 372), .none, (vr 373), (vr 374), (vr 375), (vi 772), (vi 182), (vs "/claim/cut.py" 773)]), #[]⟩
def o377_0 (P : Params) : Obj := ⟨(.type "function"), none, (fO (mth 17 11) (sn "BytesIO.isatty") [] .none .none .none (vs "io" 569) none (vr 376) .none 0 3), #[]⟩
def o378_0 (P : Params) : Obj := ⟨(.type "tuple"), none, (.seq #[] 0), #[]⟩
def o379_0 (P : Params) : Obj := ⟨.none, none, (.fields #[]), #[]⟩
def o380_0 (P : Params) : Obj := ⟨(.type "tuple"), none, (.seq #[(vs "self" 778)] 0), #[]⟩
def o381_0 (P : Params) : Obj := ⟨(.type "tuple"), none, (.seq #[] 0), #[]⟩
def o382_0 (P : Params) : Obj := ⟨.none, none, (fO (mth 17 12) (sn "BytesIO.flush") [] .none .none .none .none none .none .none 0 0), #[]⟩
def o383_0 (P : Params) : Obj := ⟨(.type "code"), none, (.fields #[(vs "flush" 775), (vs "BytesIO.flush" 776), (vs "/claim/cut.py" 777), (vi 186), (vi 1), (vi 0), (vi 0), (vi 3), (vr 378), (.bool true), (vi 317), (vr 379), .none, (vr 380), (vr 381), (vr 382), (vi 779), (vi 186), (vs "/claim/cut.py" 780)]), #[]⟩
def o384_0 (P : Params) : Obj := ⟨(.type "function"), none, (fO (mth 17 12) (sn "BytesIO.flush") [] .none .none .none (vs "io" 569) none (vr 383) .none 0 3), #[]⟩
def o385_0 (P : Params) : Obj := ⟨(.type "tuple"), none, (.seq #[] 0), #[]⟩
def o386_0 (P : Params) : Obj := ⟨.none, none, (.fields #[]), #[]⟩
def o387_0 (P : Params) : Obj := ⟨(.type "tuple"), none, (.seq #[(vs "self" 785)] 0), #[]⟩
def o388_0 (P : Params) : Obj := ⟨(.type "tuple"), none, (.seq #[] 0), #[]⟩
def o389_0 (P : Params) : Obj := ⟨.none, none, (fO (mth 17 13) (sn "BytesIO.fileno") [] .none .none .none .none none .none .none 0 0), #[]⟩
def o390_0 (P : Params) : Obj := ⟨(.type "code"), none, (.fields #[(vs "fileno" 782), (vs "BytesIO.fileno" 783), (vs "/claim/cut.py" 784), (vi 189), (vi 1), (vi 0), (vi 0), (vi 3), (vr 385), (.bool true), (vi 317), (vr 386), .none, (vr 387), (vr 388), (vr 389), (vi 786), (vi 189), (vs "/claim/cut.py" 787)]), #[]⟩
def o391_0 (P : Params) : Obj := ⟨(.type "function"), none, (fO (mth 17 13) (sn "BytesIO.fileno") [] .none .none .none (vs "io" 569) none (vr 390) .none 0 3), #[]⟩
def o392_0 (P : Params) : Obj := ⟨(.type "tuple"), none, (.seq #[] 0), #[]⟩
def o393_0 (P : Params) : Obj := ⟨.none, none, (.fields #[]), #[]⟩
def o394_0 (P : Params) : Obj := ⟨(.type "tuple"), none, (.seq #[(vs "self" 792)] 0), #[]⟩
def o395_0 (P : Params) : Obj := ⟨(.type "tuple"), none, (.seq #[] 0), #[]⟩
def o396_0 (P : Params) : Obj := ⟨.none, none, (fO (mth 17 14) (sn "BytesIO.detach") [] .none .none .none .none none .none .none 0 0), #[]⟩
def o397_0 (P : Params) : Obj := ⟨(.type "code"), none, (.fields #[(vs "detach" 789), (vs "BytesIO.detach" 790), (vs "/claim/cut.py" 791), (vi 192), (vi 1), (vi 0), (vi 0), (vi 3), (vr 392), (.bool true), (vi 317), (vr 393), .none, (vr 394), (vr 395), (vr 396), (vi 793), (vi 192), (vs "/claim/cut.py" 794)]), #[]⟩
def o398_0 (P : Params) : Obj := ⟨(.type "function"), none, (fO (mth 17 14) (sn "BytesIO.detach") [] .none .none .none (vs "io" 569) none (vr 397) .none 0 3), #[]⟩
def o399_0 (P : Params) : Obj := ⟨(.type "tuple"), none, (.seq #[] 0), #[]⟩
def o400_0 (P : Params) : Obj := ⟨.none, none, (.fields #[]), #[]⟩
def o401_0 (P : Params) : Obj := ⟨(.type "tuple"), none, (.seq #[(vs "self" 799)] 0), #[]⟩
def o402_0 (P : Params) : Obj := ⟨(.type "tuple"), none, (.seq #[] 0), #[]⟩
def o403_0 (P : Params) : Obj := ⟨.none, none, (fO (mth 17 15) (sn "BytesIO.getvalue") [] .none .none .none .none none .none .none 0 0), #[]⟩
def o404_0 (P : Params) : Obj := ⟨(.type "code"), none, (.fields #[(vs "getvalue" 796), (vs "BytesIO.getvalue" 797), (vs "/claim/cut.py" 798), (vi 195), (vi 1), (vi 0), (vi 0), (vi 3), (vr 399), (.bool true), (vi 317), (vr 400), .none, (vr 401), (vr 402), (vr 403), (vi 800), (vi 195), (vs "/claim/cut.py" 801)]), #[]⟩
def o405_0 (P : Params) : Obj := ⟨(.type "function"), none, (fO (mth 17 15) (sn "BytesIO.getvalue") [] .none .none .none (vs "io" 569) none (vr 404) .none 0 3), #[]⟩
def o406_0 (P : Params) : Obj := ⟨(.type "tuple"), none, (.seq #[] 0), #[]⟩
def o407_0 (P : Params) : Obj := ⟨.none, none, (.fields #[]), #[]⟩
def o408_0 (P : Params) : Obj := ⟨(.type "tuple"), none, (.seq #[(vs "self" 806)] 0), #[]⟩
def o409_0 (P : Params) : Obj := ⟨(.type "tuple"), none, (.seq #[] 0), #[]⟩
def o410_0 (P : Params) : Obj := ⟨.none, none, (fO (mth 17 16) (sn "BytesIO.getbuffer") [] .none .none .none .none none .none .none 0 0), #[]⟩
def o411_0 (P : Params) : Obj := ⟨(.type "code"), none, (.fields #[(vs "getbuffer" 803), (vs "BytesIO.getbuffer" 804), (vs "/claim/cut.py" 805), (vi 199), (vi 1), (vi 0), (vi 0), (vi 3), (vr 406), (.bool true), (vi 317), (vr 407), .none, (vr 408), (vr 409), (vr 410), (vi 807), (vi 199), (vs "/claim/cut.py" 808)]), #[]⟩
def o412_0 (P : Params) : Obj := ⟨(.type "function"), none, (fO (mth 17 16) (sn "BytesIO.getbuffer") [] .none .none .none (vs "io" 569) none (vr 411) .none 0 3), #[]⟩
def o413_0 (P : Params) : Obj := ⟨(.type "tuple"), none, (.seq #[] 0), #[]⟩
def o414_0 (P : Params) : Obj := ⟨.none, none, (.fields #[]), #[]⟩
def o415_0 (P : Params) : Obj := ⟨(.type "tuple"), none, (.seq #[(vs "self" 813)] 0), #[]⟩
def o416_0 (P : Params) : Obj := ⟨(.type "tuple"), none, (.seq #[] 0), #[]⟩
def o417_0 (P : Params) : Obj := ⟨.none, none, (fO (mth 17 17) (sn "BytesIO.tell") [] .none .none .none .none none .none .none 0 0), #[]⟩
def o418_0 (P : Params) : Obj := ⟨(.type "code"), none, (.fields #[(vs "tell" 810), (vs "BytesIO.tell" 811), (vs "/claim/cut.py" 812), (vi 202), (vi 1), (vi 0), (vi 0), (vi 3), (vr 413), (.bool true), (vi 317), (vr 414), .none, (vr 415), (vr 416), (vr 417), (vi 814), (vi 202), (vs "/claim/cut.py" 815)]), #[]⟩
def o419_0 (P : Params) : Obj := ⟨(.type "function"), none, (fO (mth 17 17) (sn "BytesIO.tell") [] .none .none .none (vs "io" 569) none (vr 418) .none 0 3), #[]⟩
def o420_0 (P : Params) : Obj := ⟨(.type "tuple"), none, (.seq #[(.int 0 817)] 0), #[]⟩
def o421_0 (P : Params) : Obj := ⟨(.type "tuple"), none, (.seq #[] 0), #[]⟩
def o422_0 (P : Params) : Obj := ⟨.none, none, (.fields #[]), #[]⟩
def o423_0 (P : Params) : Obj := ⟨(.type "tuple"), none, (.seq #[(vs "self" 821), (vs "pos" 822), (vs "whence" 823)] 0), #[]⟩
def o424_0 (P : Params) : Obj := ⟨(.type "tuple"), none, (.seq #[] 0), #[]⟩
def o425_0 (P : Params) : Obj := ⟨.none, none, (fO (mth 17 18) (sn "BytesIO.seek") [] .none .none .none .none none .none .none 0 0), #[]⟩
def o426_0 (P : Params) : Obj := ⟨(.type "code"), none, (.fields #[(vs "seek" 818), (vs "BytesIO.seek" 819), (vs "/claim/cut.py" 820), (vi 206), (vi 3), (vi 3), (vi 0), (vi 3), (vr 421), (.bool true), (vi 317), (vr 422), .none, (vr 423), (vr 424), (vr 425), (vi 824), (vi 206), (vs "/claim/cut.py" 825)]), #[]⟩
def o427_0 (P : Params) : Obj := ⟨(.type "function"), none, (fO (mth 17 18) (sn "BytesIO.seek") [] (vr 420) .none .none (vs "io" 569) none (vr 426) .none 0 3), #[]⟩
def o428_0 (P : Params) : Obj := ⟨(.type "tuple"), none, (.seq #[.none] 0), #[]⟩
def o429_0 (P : Params) : Obj := ⟨(.type "tuple"), none, (.seq #[] 0), #[]⟩
def o430_0 (P : Params) : Obj := ⟨.none, none, (.fields #[]), #[]⟩
def o431_0 (P : Params) : Obj := ⟨(.type "tuple"), none, (.seq #[(vs "self" 830), (vs "size" 831)] 0), #[]⟩
def o432_0 (P : Params) : Obj := ⟨(.type "tuple"), none, (.seq #[] 0), #[]⟩
def o433_0 (P : Params) : Obj := ⟨.none, none, (fO (mth 17 19) (sn "BytesIO.truncate") [] .none .none .none .none none .none .none 0 0), #[]⟩
def o434_0 (P : Params) : Obj := ⟨(.type "code"), none, (.fields #[(vs "truncate" 827), (vs "BytesIO.truncate" 828), (vs "/claim/cut.py" 829), (vi 223), (vi 2), (vi 2), (vi 0), (vi 3), (vr 429), (.bool true), (vi 317), (vr 430), .none, (vr 431), (vr 432), (vr 433), (vi 832), (vi 223), (vs "/claim/cut.py" 833)]), #[]⟩
def o435_0 (P : Params) : Obj := ⟨(.type "function"), none, (fO (mth 17 19) (sn "BytesIO.truncate") [] (vr 428) .none .none (vs "io" 569) none (vr 434) .none 0 3), #[]⟩
def o436_0 (P : Params) : Obj := ⟨(.type "tuple"), none, (.seq #[(.int (-1) 836)] 0), #[]⟩
def o437_0 (P : Params) : Obj := ⟨(.type "tuple"), none, (.seq #[] 0), #[]⟩
def o438_0 (P : Params) : Obj := ⟨.none, none, (.fields #[]), #[]⟩
def o439_0 (P : Params) : Obj := ⟨(.type "tuple"), none, (.seq #[(vs "self" 840), (vs "size" 841), (vs "start" 842), (vs "stop" 843)] 0), #[]⟩
def o440_0 (P : Params) : Obj := ⟨(.type "tuple"), none, (.seq #[] 0), #[]⟩
def o441_0 (P : Params) : Obj := ⟨.none, none, (fO (mth 17 20) (sn "BytesIO.read") [] .none .none .none .none none .none .none 0 0), #[]⟩
def o442_0 (P : Params) : Obj := ⟨(.type "code"), none, (.fields #[(vs "read" 837), (vs "BytesIO.read" 838), (vs "/claim/cut.py" 839), (vi 226), (vi 2), (vi 2), (vi 0), (vi 3), (vr 437), (.bool true), (vi 317), (vr 438), .none, (vr 439), (vr 440), (vr 441), (vi 844), (vi 226), (vs "/claim/cut.py" 845)]), #[]⟩
def o443_0 (P : Params) : Obj := ⟨(.type "function"), none, (fO (mth 17 20) (sn "BytesIO.read") [] (vr 436) .none .none (vs "io" 569) none (vr 442) .none 0 3), #[]⟩
def o444_0 (P : Params) : Obj := ⟨(.type "tuple"), none, (.seq #[(.int (-1) 848)] 0), #[]⟩
def o445_0 (P : Params) : Obj := ⟨(.type "tuple"), none, (.seq #[] 0), #[]⟩
def o446_0 (P : Params) : Obj := ⟨.none, none, (.fields #[]), #[]⟩
def o447_0 (P : Params) : Obj := ⟨(.type "tuple"), none, (.seq #[(vs "self" 852), (vs "size" 853)] 0), #[]⟩
def o448_0 (P : Params) : Obj := ⟨(.type "tuple"), none, (.seq #[] 0), #[]⟩
def o449_0 (P : Params) : Obj := ⟨.none, none, (fO (mth 17 21) (sn "BytesIO.read1") [] .none .none .none .none none .none .none 0 0), #[]⟩
def o450_0 (P : Params) : Obj := ⟨(.type "code"), none, (.fields #[(vs "read1" 849), (vs "BytesIO.read1" 850), (vs "/claim/cut.py" 851), (vi 240), (vi 2), (vi 2), (vi 0), (vi 3), (vr 445), (.bool true), (vi 317), (vr 446), .none, (vr 447), (vr 448), (vr 449), (vi 854), (vi 240), (vs "/claim/cut.py" 855)]), #[]⟩
def o451_0 (P : Params) : Obj := ⟨(.type "function"), none, (fO (mth 17 21) (sn "BytesIO.read1") [] (vr 444) .none .none (vs "io" 569) none (vr 450) .none 0 3), #[]⟩
def o452_0 (P : Params) : Obj := ⟨(.type "tuple"), none, (.seq #[] 0), #[]⟩
def o453_0 (P : Params) : Obj := ⟨.none, none, (.fields #[]), #[]⟩
def o454_0 (P : Params) : Obj := ⟨(.type "tuple"), none, (.seq #[(vs "self" 860), (vs "buffer" 861), (vs "start" 862), (vs "n" 863)] 0), #[]⟩
def o455_0 (P : Params) : Obj := ⟨(.type "tuple"), none, (.seq #[] 0), #[]⟩
def o456_0 (P : Params) : Obj := ⟨.none, none, (fO (mth 17 22) (sn "BytesIO.readinto") [] .none .none .none .none none .none .none 0 0), #[]⟩
def o457_0 (P : Params) : Obj := ⟨(.type "code"), none, (.fields #[(vs "readinto" 857), (vs "BytesIO.readinto" 858), (vs "/claim/cut.py" 859), (vi 243), (vi 2), (vi 2), (vi 0), (vi 3), (vr 452), (.bool true), (vi 317), (vr 453), .none, (vr 454), (vr 455), (vr 456), (vi 864), (vi 243), (vs "/claim/cut.py" 865)]), #[]⟩
def o458_0 (P : Params) : Obj := ⟨(.type "function"), none, (fO (mth 17 22) (sn "BytesIO.readinto") [] .none .none .none (vs "io" 569) none (vr 457) .none 0 3), #[]⟩
def o459_0 (P : Params) : Obj := ⟨(.type "tuple"), none, (.seq #[] 0), #[]⟩
def o460_0 (P : Params) : Obj := ⟨.none, none, (.fields #[]), #[]⟩
def o461_0 (P : Params) : Obj := ⟨(.type "tuple"), none, (.seq #[(vs "self" 870), (vs "buffer" 871)] 0), #[]⟩
def o462_0 (P : Params) : Obj := ⟨(.type "tuple"), none, (.seq #[] 0), #[]⟩
def o463_0 (P : Params) : Obj := ⟨.none, none, (fO (mth 17 23) (sn "BytesIO.readinto1") [] .none .none .none .none none .none .none 0 0), #[]⟩
def o464_0 (P : Params) : Obj := ⟨(.type "code"), none, (.fields #[(vs "readinto1" 867), (vs "BytesIO.readinto1" 868), (vs "/claim/cut.py" 869), (vi 257), (vi 2), (vi 2), (vi 0), (vi 3), (vr 459), (.bool true), (vi 317), (vr 460), .none, (vr 461), (vr 462), (vr 463), (vi 872), (vi 257), (vs "/claim/cut.py" 873)]), #[]⟩
def o465_0 (P : Params) : Obj := ⟨(.type "function"), none, (fO (mth 17 23) (sn "BytesIO.readinto1") [] .none .none .none (vs "io" 569) none (vr 464) .none 0 3), #[]⟩
def o466_0 (P : Params) : Obj := ⟨(.type "tuple"), none, (.seq #[(.int (-1) 876)] 0), #[]⟩
def o467_0 (P : Params) : Obj := ⟨(.type "tuple"), none, (.seq #[] 0), #[]⟩
def o468_0 (P : Params) : Obj := ⟨.none, none, (.fields #[]), #[]⟩
def o469_0 (P : Params) : Obj := ⟨(.type "tuple"), none, (.seq #[(vs "self" 880), (vs "size" 881)] 0), #[]⟩
def o470_0 (P : Params) : Obj := ⟨(.type "tuple"), none, (.seq #[] 0), #[]⟩
def o471_0 (P : Params) : Obj := ⟨.none, none, (fO (mth 17 24) (sn "BytesIO.readline") [] .none .none .none .none none .none .none 0 0), #[]⟩
def o472_0 (P : Params) : Obj := ⟨(.type "code"), none, (.fields #[(vs "readline" 877), (vs "BytesIO.readline" 878), (vs "/claim/cut.py" 879), (vi 260), (vi 2), (vi 2), (vi 0), (vi 3), (vr 467), (.bool true), (vi 317), (vr 468), .none, (vr 469), (vr 470), (vr 471), (vi 882), (vi 260), (vs "/claim/cut.py" 883)]), #[]⟩
def o473_0 (P : Params) : Obj := ⟨(.type "function"), none, (fO (mth 17 24) (sn "BytesIO.readline") [] (vr 466) .none .none (vs "io" 569) none (vr 472) .none 0 3), #[]⟩
def o474_0 (P : Params) : Obj := ⟨(.type "tuple"), none, (.seq #[.none] 0), #[]⟩
def o475_0 (P : Params) : Obj := ⟨(.type "tuple"), none, (.seq #[] 0), #[]⟩
def o476_0 (P : Params) : Obj := ⟨.none, none, (.fields #[]), #[]⟩
def o477_0 (P : Params) : Obj := ⟨(.type "tuple"), none, (.seq #[(vs "self" 888), (vs "size" 889)] 0), #[]⟩
def o478_0 (P : Params) : Obj := ⟨(.type "tuple"), none, (.seq #[] 0), #[]⟩
def o479_0 (P : Params) : Obj := ⟨.none, none, (fO (mth 17 25) (sn "BytesIO.readlines") [] .none .none .none .none none .none .none 0 0), #[]⟩
def o480_0 (P : Params) : Obj := ⟨(.type "code"), none, (.fields #[(vs "readlines" 885), (vs "BytesIO.readlines" 886), (vs "/claim/cut.py" 887), (vi 267), (vi 2), (vi 2), (vi 0), (vi 3), (vr 475), (.bool true), (vi 317), (vr 476), .none, (vr 477), (vr 478), (vr 479), (vi 890), (vi 267), (vs "/claim/cut.py" 891)]), #[]⟩
def o481_0 (P : Params) : Obj := ⟨(.type "function"), none, (fO (mth 17 25) (sn "BytesIO.readlines") [] (vr 474) .none .none (vs "io" 569) none (vr 480) .none 0 3), #[]⟩
def o482_0 (P : Params) : Obj := ⟨(.type "tuple"), none, (.seq #[] 0), #[]⟩
def o483_0 (P : Params) : Obj := ⟨.none, none, (.fields #[]), #[]⟩
def o484_0 (P : Params) : Obj := ⟨(.type "tuple"), none, (.seq #[(vs "self" 896)] 0), #[]⟩
def o485_0 (P : Params) : Obj := ⟨(.type "tuple"), none, (.seq #[] 0), #[]⟩
def o486_0 (P : Params) : Obj := ⟨.none, none, (fO (mth 17 26) (sn "BytesIO.__iter__") [] .none .none .none .none none .none .none 0 0), #[]⟩
def o487_0 (P : Params) : Obj := ⟨(.type "code"), none, (.fields #[(vs "__iter__" 893), (vs "BytesIO.__iter__" 894), (vs "/claim/cut.py" 895), (vi 270), (vi 1), (vi 0), (vi 0), (vi 3), (vr 482), (.bool true), (vi 317), (vr 483), .none, (vr 484), (vr 485), (vr 486), (vi 897), (vi 270), (vs "/claim/cut.py" 898)]), #[]⟩
def o488_0 (P : Params) : Obj := ⟨(.type "function"), none, (fO (mth 17 26) (sn "BytesIO.__iter__") [] .none .none .none (vs "io" 569) none (vr 487) .none 0 3), #[]⟩
def o489_0 (P : Params) : Obj := ⟨(.type "tuple"), none, (.seq #[] 0), #[]⟩
def o490_0 (P : Params) : Obj := ⟨.none, none, (.fields #[]), #[]⟩
def o491_0 (P : Params) : Obj := ⟨(.type "tuple"), none, (.seq #[(vs "self" 903), (vs "line" 904)] 0), #[]⟩
def o492_0 (P : Params) : Obj := ⟨(.type "tuple"), none, (.seq #[] 0), #[]⟩
def o493_0 (P : Params) : Obj := ⟨.none, none, (fO (mth 17 27) (sn "BytesIO.__next__") [] .none .none .none .none none .none .none 0 0), #[]⟩
def o494_0 (P : Params) : Obj := ⟨(.type "code"), none, (.fields #[(vs "__next__" 900), (vs "BytesIO.__next__" 901), (vs "/claim/cut.py" 902), (vi 273), (vi 1), (vi 0), (vi 0), (vi 3), (vr 489), (.bool true), (vi 317), (vr 490), .none, (vr 491), (vr 492), (vr 493), (vi 905), (vi 273), (vs "/claim/cut.py" 906)]), #[]⟩
def o495_0 (P : Params) : Obj := ⟨(.type "function"), none, (fO (mth 17 27) (sn "BytesIO.__next__") [] .none .none .none (vs "io" 569) none (vr 494) .none 0 3), #[]⟩
def o496_0 (P : Params) : Obj := ⟨(.type "tuple"), none, (.seq #[] 0), #[]⟩
def o497_0 (P : Params) : Obj := ⟨.none, none, (.fields #[]), #[]⟩
def o498_0 (P : Params) : Obj := ⟨(.type "tuple"), none, (.seq #[(vs "self" 911), (vs "b" 912), (vs "n" 913), (vs "start" 914)] 0), #[]⟩
def o499_0 (P : Params) : Obj := ⟨(.type "tuple"), none, (.seq #[] 0), #[]⟩
def o500_0 (P : Params) : Obj := ⟨.none, none, (fO (mth 17 28) (sn "BytesIO.write") [] .none .none .none .none none .none .none 0 0), #[]⟩
def o501_0 (P : Params) : Obj := ⟨(.type "code"), none, (.fields #[(vs "write" 908), (vs "BytesIO.write" 909), (vs "/claim/cut.py" 910), (vi 280), (vi 2), (vi 2), (vi 0), (vi 3), (vr 496), (.bool true), (vi 317), (vr 497), .none, (vr 498), (vr 499), (vr 500), (vi 915), (vi 280), (vs "/claim/cut.py" 916)]), #[]⟩
def o502_0 (P : Params) : Obj := ⟨(.type "function"), none, (fO (mth 17 28) (sn "BytesIO.write") [] .none .none .none (vs "io" 569) none (vr 501) .none 0 3), #[]⟩
def o503_0 (P : Params) : Obj := ⟨(.type "tuple"), none, (.seq #[] 0), #[]⟩
def o504_0 (P : Params) : Obj := ⟨.none, none, (.fields #[]), #[]⟩
def o505_0 (P : Params) : Obj := ⟨(.type "tuple"), none, (.seq #[(vs "self" 921), (vs "lines" 922)] 0), #[]⟩
def o506_0 (P : Params) : Obj := ⟨(.type "tuple"), none, (.seq #[] 0), #[]⟩
def o507_0 (P : Params) : Obj := ⟨.none, none, (fO (mth 17 29) (sn "BytesIO.writelines") [] .none .none .none .none none .none .none 0 0), #[]⟩
def o508_0 (P : Params) : Obj := ⟨(.type "code"), none, (.fields #[(vs "writelines" 918), (vs "BytesIO.writelines" 919), (vs "/claim/cut.py" 920), (vi 296), (vi 2), (vi 2), (vi 0), (vi 3), (vr 503), (.bool true), (vi 317), (vr 504), .none, (vr 505), (vr 506), (vr 507), (vi 923), (vi 296), (vs "/claim/cut.py" 924)]), #[]⟩
def o509_0 (P : Params) : Obj := ⟨(.type "function"), none, (fO (mth 17 29) (sn "BytesIO.writelines") [] .none .none .none (vs "io" 569) none (vr 508) .none 0 3), #[]⟩
def o510_0 (P : Params) : Obj := ⟨(.type "tuple"), none, (.seq #[] 0), #[]⟩
def o511_0 (P : Params) : Obj := ⟨.none, none, (.fields #[]), #[]⟩
def o512_0 (P : Params) : Obj := ⟨(.type "tuple"), none, (.seq #[(vs "self" 929)] 0), #[]⟩
def o513_0 (P : Params) : Obj := ⟨(.type "tuple"), none, (.seq #[] 0), #[]⟩
def o514_0 (P : Params) : Obj := ⟨.none, none, (fO (mth 17 30) (sn "BytesIO.__repr__") [] .none .none .none .none none .none .none 0 0), #[]⟩
def o515_0 (P : Params) : Obj := ⟨(.type "code"), none, (.fields #[(vs "__repr__" 926), (vs "BytesIO.__repr__" 927), (vs "/claim/cut.py" 928), (vi 299), (vi 1), (vi 0), (vi 0), (vi 3), (vr 510), (.bool true), (vi 317), (vr 511), .none, (vr 512), (vr 513), (vr 514), (vi 930), (vi 299), (vs "/claim/cut.py" 931)]), #[]⟩
def o516_0 (P : Params) : Obj := ⟨(.type "function"), none, (fO (mth 17 30) (sn "BytesIO.__repr__") [] .none .none .none (vs "io" 569) none (vr 515) .none 0 3), #[]⟩
def o517_0 (P : Params) : Obj := ⟨(.type "tuple"), none, (.seq #[(vs "__buf" 933), (vs "__pos" 934)] 0), #[]⟩
def o518_0 (P : Params) : Obj := ⟨(.type "dict"), none, (.dict #[de P "__module__" 684 (vs "_io" 689), de P "__firstlineno__" 688 (.int 130 687), de P "__init__" 698 (vr 306), de P "_BytesIO__check" 705 (vr 313), de P "_BytesIO__line" 716 (vr 320), de P "closed" 724 (vr 328), de P "close" 731 (vr 335), de P "__enter__" 738 (vr 342), de P "__exit__" 746 (vr 349), de P "readable" 753 (vr 356), de P "writable" 760 (vr 363), de P "seekable" 767 (vr 370), de P "isatty" 774 (vr 377), de P "flush" 781 (vr 384), de P "fileno" 788 (vr 391), de P "detach" 795 (vr 398), de P "getvalue" 802 (vr 405), de P "getbuffer" 809 (vr 412), de P "tell" 816 (vr 419), de P "seek" 826 (vr 427), de P "truncate" 834 (vr 435), de P "read" 846 (vr 443), de P "read1" 856 (vr 451), de P "readinto" 866 (vr 458), de P "readinto1" 874 (vr 465), de P "readline" 884 (vr 473), de P "readlines" 892 (vr 481), de P "__iter__" 899 (vr 488), de P "__next__" 907 (vr 495), de P "write" 917 (vr 502), de P "writelines" 925 (vr 509), de P "__repr__" 932 (vr 516), de P "__static_attributes__" 935 (vr 517), de P "__doc__" 936 .none] 2), #[]⟩
def o519_0 (P : Params) : Obj := ⟨(.type "type"), none, (.cls { name := sn "BytesIO", bases := [(vr 277)], mro := [(vr 519), (vr 277), (vr 262), (.type "object")], ns := 518, qualname := sn "BytesIO", hasDict := true, slotNames := [], subclasses := [], abstract := false, collection := none, hasDel := false }), #[(some (vr 292)), none, (some (vs "BytesIO" 677)), (some (vs "BytesIO" 685)), (some .none), (some (.bool true))]⟩
def o520_0 (P : Params) : Obj := ⟨(.type "super"), none, (.fields #[(vr 519), (vr 519), (vr 519)]), #[]⟩
def o521_0 (P : Params) : Obj := ⟨(.type "builtin_function_or_method"), none, (.fields #[(.builtin "object.__init_subclass__"), (vr 519)]), #[]⟩
def trA (P : Params) : BT := (.node (o0_0 P) (.node (o1_0 P) (.node (o3_1 P) (.node (o7_0 P) (.node (o15_0 P) (.node (o31_0 P) (.node (o63_0 P) (.node (o127_0 P) (.node (o255_0 P) (.node (o511_0 P) .nil .nil) .nil) (.node (o383_0 P) .nil .nil)) (.node (o191_0 P) (.node (o319_0 P) .nil .nil) (.node (o447_0 P) .nil .nil))) (.node (o95_0 P) (.node (o159_0 P) (.node (o287_0 P) .nil .nil) (.node (o415_0 P) .nil .nil)) (.node (o223_0 P) (.node (o351_0 P) .nil .nil) (.node (o479_0 P) .nil .nil)))) (.node (o47_0 P) (.node (o79_0 P) (.node (o143_0 P) (.node (o271_0 P) .nil .nil) (.node (o399_0 P) .nil .nil)) (.node (o207_0 P) (.node (o335_0 P) .nil .nil) (.node (o463_0 P) .nil .nil))) (.node (o111_0 P) (.node (o175_0 P) (.node (o303_0 P) .nil .nil) (.node (o431_0 P) .nil .nil)) (.node (o239_0 P) (.node (o367_0 P) .nil .nil) (.node (o495_0 P) .nil .nil))))) (.node (o23_0 P) (.node (o39_0 P) (.node (o71_0 P) (.node (o135_0 P) (.node (o263_0 P) (.node (o519_0 P) .nil .nil) .nil) (.node (o391_0 P) .nil .nil)) (.node (o199_0 P) (.node (o327_0 P) .nil .nil) (.node (o455_0 P) .nil .nil))) (.node (o103_0 P) (.node (o167_0 P) (.node (o295_0 P) .nil .nil) (.node (o423_0 P) .nil .nil)) (.node (o231_0 P) (.node (o359_0 P) .nil .nil) (.node (o487_0 P) .nil .nil)))) (.node (o55_0 P) (.node (o87_0 P) (.node (o151_0 P) (.node (o279_0 P) .nil .nil) (.node (o407_0 P) .nil .nil)) (.node (o215_0 P) (.node (o343_0 P) .nil .nil) (.node (o471_0 P) .nil .nil))) (.node (o119_0 P) (.node (o183_0 P) (.node (o311_0 P) .nil .nil) (.node (o439_0 P) .nil .nil)) (.node (o247_0 P) (.node (o375_0 P) .nil .nil) (.node (o503_0 P) .nil .nil)))))) (.node (o11_0 P) (.node (o19_0 P) (.node (o35_0 P) (.node (o67_0 P) (.node (o131_0 P) (.node (o259_0 P) (.node (o515_0 P) .nil .nil) .nil) (.node (o387_0 P) .nil .nil)) (.node (o195_0 P) (.node (o323_0 P) .nil .nil) (.node (o451_0 P) .nil .nil))) (.node (o99_0 P) (.node (o163_0 P) (.node (o291_0 P) .nil .nil) (.node (o419_0 P) .nil .nil)) (.node (o227_0 P) (.node (o355_0 P) .nil .nil) (.node (o483_0 P) .nil .nil)))) (.node (o51_0 P) (.node (o83_0 P) (.node (o147_0 P) (.node (o275_0 P) .nil .nil) (.node (o403_0 P) .nil .nil)) (.node (o211_0 P) (.node (o339_0 P) .nil .nil) (.node (o467_0 P) .nil .nil))) (.node (o115_0 P) (.node (o179_0 P) (.node (o307_0 P) .nil .nil) (.node (o435_0 P) .nil .nil)) (.node (o243_0 P) (.node (o371_0 P) .nil .nil) (.node (o499_0 P) .nil .nil))))) (.node (o27_0 P) (.node (o43_0 P) (.node (o75_0 P) (.node (o139_0 P) (.node (o267_0 P) .nil .nil) (.node (o395_0 P) .nil .nil)) (.node (o203_0 P) (.node (o331_0 P) .nil .nil) (.node (o459_0 P) .nil .nil))) (.node (o107_0 P) (.node (o171_0 P) (.node (o299_0 P) .nil .nil) (.node (o427_0 P) .nil .nil)) (.node (o235_0 P) (.node (o363_0 P) .nil .nil) (.node (o491_0 P) .nil .nil)))) (.node (o59_0 P) (.node (o91_0 P) (.node (o155_0 P) (.node (o283_0 P) .nil .nil) (.node (o411_0 P) .nil .nil)) (.node (o219_0 P) (.node (o347_0 P) .nil .nil) (.node (o475_0 P) .nil .nil))) (.node (o123_0 P) (.node (o187_0 P) (.node (o315_0 P) .nil .nil) (.node (o443_0 P) .nil .nil)) (.node (o251_0 P) (.node (o379_0 P) .nil .nil) (.node (o507_0 P) .nil .nil))))))) (.node (o5_0 P) (.node (o9_0 P) (.node (o17_0 P) (.node (o33_0 P) (.node (o65_0 P) (.node (o129_0 P) (.node (o257_0 P) (.node (o513_0 P) .nil .nil) .nil) (.node (o385_0 P) .nil .nil)) (.node (o193_0 P) (.node (o321_0 P) .nil .nil) (.node (o449_0 P) .nil .nil))) (.node (o97_0 P) (.node (o161_0 P) (.node (o289_0 P) .nil .nil) (.node (o417_0 P) .nil .nil)) (.node (o225_0 P) (.node (o353_0 P) .nil .nil) (.node (o481_0 P) .nil .nil)))) (.node (o49_0 P) (.node (o81_0 P) (.node (o145_0 P) (.node (o273_0 P) .nil .nil) (.node (o401_0 P) .nil .nil)) (.node (o209_0 P) (.node (o337_0 P) .nil .nil) (.node (o465_0 P) .nil .nil))) (.node (o113_0 P) (.node (o177_0 P) (.node (o305_0 P) .nil .nil) (.node (o433_0 P) .nil .nil)) (.node (o241_0 P) (.node (o369_0 P) .nil .nil) (.node (o497_0 P) .nil .nil))))) (.node (o25_0 P) (.node (o41_0 P) (.node (o73_0 P) (.node (o137_0 P) (.node (o265_0 P) (.node (o521_0 P) .nil .nil) .nil) (.node (o393_0 P) .nil .nil)) (.node (o201_0 P) (.node (o329_0 P) .nil .nil) (.node (o457_0 P) .nil .nil))) (.node (o105_0 P) (.node (o169_0 P) (.node (o297_0 P) .nil .nil) (.node (o425_0 P) .nil .nil)) (.node (o233_0 P) (.node (o361_0 P) .nil .nil) (.node (o489_0 P) .nil .nil)))) (.node (o57_0 P) (.node (o89_0 P) (.node (o153_0 P) (.node (o281_0 P) .nil .nil) (.node (o409_0 P) .nil .nil)) (.node (o217_0 P) (.node (o345_0 P) .nil .nil) (.node (o473_0 P) .nil .nil))) (.node (o121_0 P) (.node (o185_0 P) (.node (o313_0 P) .nil .nil) (.node (o441_0 P) .nil .nil)) (.node (o249_0 P) (.node (o377_0 P) .nil .nil) (.node (o505_0 P) .nil .nil)))))) (.node (o13_0 P) (.node (o21_0 P) (.node (o37_0 P) (.node (o69_0 P) (.node (o133_0 P) (.node (o261_0 P) (.node (o517_0 P) .nil .nil) .nil) (.node (o389_0 P) .nil .nil)) (.node (o197_0 P) (.node (o325_0 P) .nil .nil) (.node (o453_0 P) .nil .nil))) (.node (o101_0 P) (.node (o165_0 P) (.node (o293_0 P) .nil .nil) (.node (o421_0 P) .nil .nil)) (.node (o229_0 P) (.node (o357_0 P) .nil .nil) (.node (o485_0 P) .nil .nil)))) (.node (o53_0 P) (.node (o85_0 P) (.node (o149_0 P) (.node (o277_0 P) .nil .nil) (.node (o405_0 P) .nil .nil)) (.node (o213_0 P) (.node (o341_0 P) .nil .nil) (.node (o469_0 P) .nil .nil))) (.node (o117_0 P) (.node (o181_0 P) (.node (o309_0 P) .nil .nil) (.node (o437_0 P) .nil .nil)) (.node (o245_0 P) (.node (o373_0 P) .nil .nil) (.node (o501_0 P) .nil .nil))))) (.node (o29_0 P) (.node (o45_0 P) (.node (o77_0 P) (.node (o141_0 P) (.node (o269_0 P) .nil .nil) (.node (o397_0 P) .nil .nil)) (.node (o205_0 P) (.node (o333_0 P) .nil .nil) (.node (o461_0 P) .nil .nil))) (.node (o109_0 P) (.node (o173_0 P) (.node (o301_0 P) .nil .nil) (.node (o429_0 P) .nil .nil)) (.node (o237_0 P) (.node (o365_0 P) .nil .nil) (.node (o493_0 P) .nil .nil)))) (.node (o61_0 P) (.node (o93_0 P) (.node (o157_0 P) (.node (o285_0 P) .nil .nil) (.node (o413_0 P) .nil .nil)) (.node (o221_0 P) (.node (o349_0 P) .nil .nil) (.node (o477_0 P) .nil .nil))) (.node (o125_0 P) (.node (o189_0 P) (.node (o317_0 P) .nil .nil) (.node (o445_0 P) .nil .nil)) (.node (o253_0 P) (.node (o381_0 P) .nil .nil) (.node (o509_0 P) .nil .nil)))))))) (.node (o2_1 P) (.node (o4_0 P) (.node (o8_0 P) (.node (o16_0 P) (.node (o32_0 P) (.node (o64_0 P) (.node (o128_0 P) (.node (o256_0 P) (.node (o512_0 P) .nil .nil) .nil) (.node (o384_0 P) .nil .nil)) (.node (o192_0 P) (.node (o320_0 P) .nil .nil) (.node (o448_0 P) .nil .nil))) (.node (o96_0 P) (.node (o160_0 P) (.node (o288_0 P) .nil .nil) (.node (o416_0 P) .nil .nil)) (.node (o224_0 P) (.node (o352_0 P) .nil .nil) (.node (o480_0 P) .nil .nil)))) (.node (o48_0 P) (.node (o80_0 P) (.node (o144_0 P) (.node (o272_0 P) .nil .nil) (.node (o400_0 P) .nil .nil)) (.node (o208_0 P) (.node (o336_0 P) .nil .nil) (.node (o464_0 P) .nil .nil))) (.node (o112_0 P) (.node (o176_0 P) (.node (o304_0 P) .nil .nil) (.node (o432_0 P) .nil .nil)) (.node (o240_0 P) (.node (o368_0 P) .nil .nil) (.node (o496_0 P) .nil .nil))))) (.node (o24_0 P) (.node (o40_1 P) (.node (o72_0 P) (.node (o136_0 P) (.node (o264_0 P) (.node (o520_0 P) .nil .nil) .nil) (.node (o392_0 P) .nil .nil)) (.node (o200_0 P) (.node (o328_0 P) .nil .nil) (.node (o456_0 P) .nil .nil))) (.node (o104_0 P) (.node (o168_0 P) (.node (o296_0 P) .nil .nil) (.node (o424_0 P) .nil .nil)) (.node (o232_0 P) (.node (o360_0 P) .nil .nil) (.node (o488_0 P) .nil .nil)))) (.node (o56_0 P) (.node (o88_0 P) (.node (o152_0 P) (.node (o280_0 P) .nil .nil) (.node (o408_0 P) .nil .nil)) (.node (o216_0 P) (.node (o344_0 P) .nil .nil) (.node (o472_0 P) .nil .nil))) (.node (o120_0 P) (.node (o184_0 P) (.node (o312_0 P) .nil .nil) (.node (o440_0 P) .nil .nil)) (.node (o248_0 P) (.node (o376_0 P) .nil .nil) (.node (o504_0 P) .nil .nil)))))) (.node (o12_0 P) (.node (o20_0 P) (.node (o36_0 P) (.node (o68_0 P) (.node (o132_0 P) (.node (o260_0 P) (.node (o516_0 P) .nil .nil) .nil) (.node (o388_0 P) .nil .nil)) (.node (o196_0 P) (.node (o324_0 P) .nil .nil) (.node (o452_0 P) .nil .nil))) (.node (o100_0 P) (.node (o164_0 P) (.node (o292_0 P) .nil .nil) (.node (o420_0 P) .nil .nil)) (.node (o228_0 P) (.node (o356_0 P) .nil .nil) (.node (o484_0 P) .nil .nil)))) (.node (o52_0 P) (.node (o84_0 P) (.node (o148_0 P) (.node (o276_0 P) .nil .nil) (.node (o404_0 P) .nil .nil)) (.node (o212_0 P) (.node (o340_0 P) .nil .nil) (.node (o468_0 P) .nil .nil))) (.node (o116_0 P) (.node (o180_0 P) (.node (o308_0 P) .nil .nil) (.node (o436_0 P) .nil .nil)) (.node (o244_0 P) (.node (o372_0 P) .nil .nil) (.node (o500_0 P) .nil .nil))))) (.node (o28_0 P) (.node (o44_0 P) (.node (o76_0 P) (.node (o140_0 P) (.node (o268_0 P) .nil .nil) (.node (o396_0 P) .nil .nil)) (.node (o204_0 P) (.node (o332_0 P) .nil .nil) (.node (o460_0 P) .nil .nil))) (.node (o108_0 P) (.node (o172_0 P) (.node (o300_0 P) .nil .nil) (.node (o428_0 P) .nil .nil)) (.node (o236_0 P) (.node (o364_0 P) .nil .nil) (.node (o492_0 P) .nil .nil)))) (.node (o60_0 P) (.node (o92_0 P) (.node (o156_0 P) (.node (o284_0 P) .nil .nil) (.node (o412_0 P) .nil .nil)) (.node (o220_0 P) (.node (o348_0 P) .nil .nil) (.node (o476_0 P) .nil .nil))) (.node (o124_0 P) (.node (o188_0 P) (.node (o316_0 P) .nil .nil) (.node (o444_0 P) .nil .nil)) (.node (o252_0 P) (.node (o380_0 P) .nil .nil) (.node (o508_0 P) .nil .nil))))))) (.node (o6_0 P) (.node (o10_0 P) (.node (o18_0 P) (.node (o34_0 P) (.node (o66_0 P) (.node (o130_0 P) (.node (o258_0 P) (.node (o514_0 P) .nil .nil) .nil) (.node (o386_0 P) .nil .nil)) (.node (o194_0 P) (.node (o322_0 P) .nil .nil) (.node (o450_0 P) .nil .nil))) (.node (o98_0 P) (.node (o162_0 P) (.node (o290_0 P) .nil .nil) (.node (o418_0 P) .nil .nil)) (.node (o226_0 P) (.node (o354_0 P) .nil .nil) (.node (o482_0 P) .nil .nil)))) (.node (o50_0 P) (.node (o82_0 P) (.node (o146_0 P) (.node (o274_0 P) .nil .nil) (.node (o402_0 P) .nil .nil)) (.node (o210_0 P) (.node (o338_0 P) .nil .nil) (.node (o466_0 P) .nil .nil))) (.node (o114_0 P) (.node (o178_0 P) (.node (o306_0 P) .nil .nil) (.node (o434_0 P) .nil .nil)) (.node (o242_0 P) (.node (o370_0 P) .nil .nil) (.node (o498_0 P) .nil .nil))))) (.node (o26_0 P) (.node (o42_0 P) (.node (o74_0 P) (.node (o138_0 P) (.node (o266_0 P) .nil .nil) (.node (o394_0 P) .nil .nil)) (.node (o202_0 P) (.node (o330_0 P) .nil .nil) (.node (o458_0 P) .nil .nil))) (.node (o106_0 P) (.node (o170_0 P) (.node (o298_0 P) .nil .nil) (.node (o426_0 P) .nil .nil)) (.node (o234_0 P) (.node (o362_0 P) .nil .nil) (.node (o490_0 P) .nil .nil)))) (.node (o58_0 P) (.node (o90_0 P) (.node (o154_0 P) (.node (o282_0 P) .nil .nil) (.node (o410_0 P) .nil .nil)) (.node (o218_0 P) (.node (o346_0 P) .nil .nil) (.node (o474_0 P) .nil .nil))) (.node (o122_0 P) (.node (o186_0 P) (.node (o314_0 P) .nil .nil) (.node (o442_0 P) .nil .nil)) (.node (o250_0 P) (.node (o378_0 P) .nil .nil) (.node (o506_0 P) .nil .nil)))))) (.node (o14_0 P) (.node (o22_0 P) (.node (o38_0 P) (.node (o70_0 P) (.node (o134_0 P) (.node (o262_0 P) (.node (o518_0 P) .nil .nil) .nil) (.node (o390_0 P) .nil .nil)) (.node (o198_0 P) (.node (o326_0 P) .nil .nil) (.node (o454_0 P) .nil .nil))) (.node (o102_0 P) (.node (o166_0 P) (.node (o294_0 P) .nil .nil) (.node (o422_0 P) .nil .nil)) (.node (o230_0 P) (.node (o358_0 P) .nil .nil) (.node (o486_0 P) .nil .nil)))) (.node (o54_0 P) (.node (o86_0 P) (.node (o150_0 P) (.node (o278_0 P) .nil .nil) (.node (o406_0 P) .nil .nil)) (.node (o214_0 P) (.node (o342_0 P) .nil .nil) (.node (o470_0 P) .nil .nil))) (.node (o118_0 P) (.node (o182_0 P) (.node (o310_0 P) .nil .nil) (.node (o438_0 P) .nil .nil)) (.node (o246_0 P) (.node (o374_0 P) .nil .nil) (.node (o502_0 P) .nil .nil))))) (.node (o30_0 P) (.node (o46_0 P) (.node (o78_0 P) (.node (o142_0 P) (.node (o270_0 P) .nil .nil) (.node (o398_0 P) .nil .nil)) (.node (o206_0 P) (.node (o334_0 P) .nil .nil) (.node (o462_0 P) .nil .nil))) (.node (o110_0 P) (.node (o174_0 P) (.node (o302_0 P) .nil .nil) (.node (o430_0 P) .nil .nil)) (.node (o238_0 P) (.node (o366_0 P) .nil .nil) (.node (o494_0 P) .nil .nil)))) (.node (o62_0 P) (.node (o94_0 P) (.node (o158_0 P) (.node (o286_0 P) .nil .nil) (.node (o414_0 P) .nil .nil)) (.node (o222_0 P) (.node (o350_0 P) .nil .nil) (.node (o478_0 P) .nil .nil))) (.node (o126_0 P) (.node (o190_0 P) (.node (o318_0 P) .nil .nil) (.node (o446_0 P) .nil .nil)) (.node (o254_0 P) (.node (o382_0 P) .nil .nil) (.node (o510_0 P) .nil .nil)))))))))
def o2_2 (P : Params) : Obj := ⟨.none, none, (.dict #[de P "\x69mport.loaded._struct" 186 (.bool true), de P "class._frozen_importlib_external._LoaderBasics" 191 (vr 16), de P "watched.\x69mport" 207 (vr 20), de P "class._frozen_importlib_external.FileLoader" 208 (vr 22), de P "class._frozen_importlib_external.ExtensionFileLoader" 229 (vr 27), de P "class._frozen_importlib.ModuleSpec" 257 (vr 33), de P "sys.modules.booked-epoch" 286 (vi 3), de P "class.struct.error" 303 (.type "struct.error"), de P "\x69mport.later-laid._struct" 305 (.bool true), de P "watched.library" 307 (vr 38), de P "watched.library-objects" 0 (.str ⟨#[13]⟩ 0), de P "type.__subclasses__.OSError.0" 605 (vi 242), de P "type.__subclasses__.OSError.n" 606 (vi 1), de P "type.__subclasses__.Exception.0" 1413 (vi 893), de P "type.__subclasses__.Exception.n" 1414 (vi 1)] 15), #[]⟩
def o3_2 (P : Params) : Obj := ⟨(.type "dict"), none, (.dict #[de P "__name__" 165 (vs "rlp.utils" 1563), de P "__doc__" 166 .none, de P "__package__" 167 .none, de P "__loader__" 168 (.builtin "__main__.__loader__#opaque"), de P "__spec__" 169 .none, de P "__annotations__" 170 (vr 6), de P "__builtins__" 171 (vr 4), de P "__file__" 173 (vs "/claim/cut.py" 172), de P "__cached__" 174 .none, de P "pack_struct" 313 (.builtin "_struct.pack"), de P "unpack" 316 (.builtin "_struct.unpack"), de P "_wall" 329 (vr 49), de P "frozendict" 351 (vr 59), de P "ExtType" 407 (vr 104), de P "Timestamp" 555 (vr 207), de P "DEFAULT_RECURSE_LIMIT" 559 (.int 1024 558), de P "_check_type_strict" 568 (vr 218), de P "_whence" 578 (vr 225), de P "_index" 586 (vr 232), de P "UnsupportedOperation" 608 (vr 242), de P "IOBase" 640 (vr 262), de P "BufferedIOBase" 658 (vr 277), de P "TextIOBase" 676 (vr 289), de P "BytesIO" 938 (vr 519), de P "StringIO" 1225 (vr 766), de P "Packer" 1394 (vr 879), de P "RLPException" 1416 (vr 893), de P "EncodingError" 1444 (vr 915), de P "SerializationError" 1472 (vr 936), de P "ListSerializationError" 1503 (vr 958), de P "DeserializationError" 1531 (vr 979), de P "ListDeserializationError" 1562 (vr 1001)] 32), #[]⟩
def o40_2 (P : Params) : Obj := ⟨.none, none, (.fields #[(vi 2), (vi 0), (vr 48), (vi 6), (vi 0), (vr 55), (vi 9), (vi 0), (vr 69), (vi 31), (vi 0), (vr 114), (vi 99), (vi 0), (vr 217), (vi 105), (vi 0), (vr 224), (vi 110), (vi 0), (vr 231), (vi 117), (vi 0), (vr 238), (vi 119), (vi 0), (vr 251), (vi 126), (vi 0), (vr 273), (vi 128), (vi 0), (vr 285), (vi 130), (vi 0), (vr 297), (vi 301), (vi 0), (vr 527), (vi 508), (vi 0), (vr 774), (vi 701), (vi 0), (vr 889), (vi 703), (vi 0), (vr 903), (vi 708), (vi 0), (vr 924), (vi 713), (vi 0), (vr 945), (vi 723), (vi 0), (vr 967), (vi 728), (vi 0), (vr 988)]), #[]⟩
def o289_1 (P : Params) : Obj := ⟨(.type "type"), none, (.cls { name := sn "TextIOBase", bases := [(vr 262)], mro := [(vr 289), (vr 262), (.type "object")], ns := 288, qualname := sn "TextIOBase", hasDict := true, slotNames := [], subclasses := [(vr 766)], abstract := false, collection := none, hasDel := false }), #[(some (vr 280)), none, (some (vs "TextIOBase" 659)), (some (vs "TextIOBase" 667)), (some .none), (some (.bool true))]⟩
def o522_0 (P : Params) : Obj := ⟨(.type "tuple"), none, (.seq #[(vr 289)] 0), #[]⟩
def o523_0 (P : Params) : Obj := ⟨(.type "builtin_function_or_method"), none, (.fields #[(.builtin "type.__prepare__"), (.type "type")]), #[]⟩
def o524_0 (P : Params) : Obj := ⟨(.type "dict"), none, (.dict #[de P "__module__" 946 (vs "_io" 951), de P "__qualname__" 948 (vs "StringIO" 947), de P "__firstlineno__" 950 (.int 301 949), de P "__init__" 963 (vr 536), de P "_StringIO__translated" 972 (vr 543), de P "_StringIO__check" 979 (vr 550), de P "_StringIO__check_dot" 986 (vr 557), de P "_StringIO__line" 1001 (vr 564), de P "closed" 1009 (vr 572), de P "line_buffering" 1017 (vr 580), de P "newlines" 1025 (vr 588), de P "encoding" 1033 (vr 596), de P "errors" 1041 (vr 604), de P "close" 1048 (vr 611), de P "__enter__" 1055 (vr 618), de P "__exit__" 1063 (vr 625), de P "readable" 1070 (vr 632), de P "writable" 1077 (vr 639), de P "seekable" 1084 (vr 646), de P "isatty" 1091 (vr 653), de P "flush" 1098 (vr 660), de P "fileno" 1105 (vr 667), de P "detach" 1112 (vr 674), de P "getvalue" 1119 (vr 681), de P "tell" 1126 (vr 688), de P "seek" 1136 (vr 696), de P "truncate" 1144 (vr 704), de P "read" 1156 (vr 712), de P "readline" 1166 (vr 720), de P "readlines" 1176 (vr 728), de P "__iter__" 1183 (vr 735), de P "__next__" 1191 (vr 742), de P "write" 1203 (vr 749), de P "writelines" 1211 (vr 756), de P "__repr__" 1218 (vr 763), de P "__static_attributes__" 1222 (vr 764)] 36), #[]⟩
def o525_0 (P : Params) : Obj := ⟨(.type "tuple"), none, (.seq #[] 0), #[]⟩
def o526_0 (P : Params) : Obj := ⟨.none, none, (.fields #[(vi 304), (vi 4), (vr 535), (vi 317), (vi 4), (vr 542), (vi 325), (vi 4), (vr 549), (vi 329), (vi 4), (vr 556), (vi 333), (vi 4), (vr 563), (vi 366), (vi 4), (vr 570), (vi 370), (vi 4), (vr 578), (vi 374), (vi 4), (vr 586), (vi 378), (vi 4), (vr 594), (vi 382), (vi 4), (vr 602), (vi 385), (vi 4), (vr 610), (vi 388), (vi 4), (vr 617), (vi 392), (vi 4), (vr 624), (vi 395), (vi 4), (vr 631), (vi 399), (vi 4), (vr 638), (vi 403), (vi 4), (vr 645), (vi 407), (vi 4), (vr 652), (vi 411), (vi 4), (vr 659), (vi 414), (vi 4), (vr 666), (vi 417), (vi 4), (vr 673), (vi 420), (vi 4), (vr 680), (vi 424), (vi 4), (vr 687), (vi 428), (vi 4), (vr 695), (vi 445), (vi 4), (vr 703), (vi 448), (vi 4), (vr 711), (vi 462), (vi 4), (vr 719), (vi 469), (vi 4), (vr 727), (vi 472), (vi 4), (vr 734), (vi 476), (vi 4), (vr 741), (vi 483), (vi 4), (vr 748), (vi 502), (vi 4), (vr 755), (vi 505), (vi 4), (vr 762)]), #[]⟩
def o527_0 (P : Params) : Obj := ⟨(.type "code"), none, (.fields #[(vs "StringIO" 941), (vs "StringIO" 942), (vs "/claim/cut.py" 943), (vi 301), (vi 0), (vi 0), (vi 0), (vi 0), (vr 525), (.bool false), (vi 317), (vr 526), .none, .none, .none, .none, (vi 944), (vi 301), (vs "/claim/cut.py" 945)]), #[]⟩
def o528_0 (P : Params) : Obj := ⟨(.type "frame"), none, .plain, #[(some (vr 527)), (some (vr 3)), (some (vr 524)), none, (some (vs "io" 569)), none, (some (vr 0))]⟩
def o529_0 (P : Params) : Obj := ⟨(.type "tuple"), none, (.seq #[(vs "" 953), (.str ⟨#[10]⟩ 954)] 0), #[]⟩
def o530_0 (P : Params) : Obj := ⟨(.type "tuple"), none, (.seq #[] 0), #[]⟩
def o531_0 (P : Params) : Obj := ⟨.none, none, (.fields #[]), #[]⟩
def o532_0 (P : Params) : Obj := ⟨(.type "tuple"), none, (.seq #[(vs "self" 958), (vs "initial_value" 959), (vs "newline" 960)] 0), #[]⟩
def o533_0 (P : Params) : Obj := ⟨(.type "tuple"), none, (.seq #[] 0), #[]⟩
def o534_0 (P : Params) : Obj := ⟨.none, none, (fO (mth 18 1) (sn "StringIO.__init__") [] .none .none .none .none none .none .none 0 0), #[]⟩
def o535_0 (P : Params) : Obj := ⟨(.type "code"), none, (.fields #[(vs "__init__" 955), (vs "StringIO.__init__" 956), (vs "/claim/cut.py" 957), (vi 304), (vi 3), (vi 0), (vi 0), (vi 3), (vr 530), (.bool true), (vi 317), (vr 531), .none, (vr 532), (vr 533), (vr 534), (vi 961), (vi 304), (vs "/claim/cut.py" 962)]), #[]⟩
def o536_0 (P : Params) : Obj := ⟨(.type "function"), none, (fO (mth 18 1) (sn "StringIO.__init__") [] (vr 529) .none .none (vs "io" 569) none (vr 535) .none 0 3), #[]⟩
def o537_0 (P : Params) : Obj := ⟨(.type "tuple"), none, (.seq #[] 0), #[]⟩
def o538_0 (P : Params) : Obj := ⟨.none, none, (.fields #[]), #[]⟩
def o539_0 (P : Params) : Obj := ⟨(.type "tuple"), none, (.seq #[(vs "self" 967), (vs "s" 968), (vs "newline" 969)] 0), #[]⟩
def o540_0 (P : Params) : Obj := ⟨(.type "tuple"), none, (.seq #[] 0), #[]⟩
def o541_0 (P : Params) : Obj := ⟨.none, none, (fO (mth 18 2) (sn "StringIO.__translated") [] .none .none .none .none none .none .none 0 0), #[]⟩
def o542_0 (P : Params) : Obj := ⟨(.type "code"), none, (.fields #[(vs "__translated" 964), (vs "StringIO.__translated" 965), (vs "/claim/cut.py" 966), (vi 317), (vi 2), (vi 0), (vi 0), (vi 3), (vr 537), (.bool true), (vi 317), (vr 538), .none, (vr 539), (vr 540), (vr 541), (vi 970), (vi 317), (vs "/claim/cut.py" 971)]), #[]⟩
def o543_0 (P : Params) : Obj := ⟨(.type "function"), none, (fO (mth 18 2) (sn "StringIO.__translated") [] .none .none .none (vs "io" 569) none (vr 542) .none 0 3), #[]⟩
def o544_0 (P : Params) : Obj := ⟨(.type "tuple"), none, (.seq #[] 0), #[]⟩
def o545_0 (P : Params) : Obj := ⟨.none, none, (.fields #[]), #[]⟩
def o546_0 (P : Params) : Obj := ⟨(.type "tuple"), none, (.seq #[(vs "self" 976)] 0), #[]⟩
def o547_0 (P : Params) : Obj := ⟨(.type "tuple"), none, (.seq #[] 0), #[]⟩
def o548_0 (P : Params) : Obj := ⟨.none, none, (fO (mth 18 3) (sn "StringIO.__check") [] .none .none .none .none none .none .none 0 0), #[]⟩
def o549_0 (P : Params) : Obj := ⟨(.type "code"), none, (.fields #[(vs "__check" 973), (vs "StringIO.__check" 974), (vs "/claim/cut.py" 975), (vi 325), (vi 1), (vi 0), (vi 0), (vi 3), (vr 544), (.bool true), (vi 317), (vr 545), .none, (vr 546), (vr 547), (vr 548), (vi 977), (vi 325), (vs "/claim/cut.py" 978)]), #[]⟩
def o550_0 (P : Params) : Obj := ⟨(.type "function"), none, (fO (mth 18 3) (sn "StringIO.__check") [] .none .none .none (vs "io" 569) none (vr 549) .none 0 3), #[]⟩
def o551_0 (P : Params) : Obj := ⟨(.type "tuple"), none, (.seq #[] 0), #[]⟩
def o552_0 (P : Params) : Obj := ⟨.none, none, (.fields #[]), #[]⟩
def o553_0 (P : Params) : Obj := ⟨(.type "tuple"), none, (.seq #[(vs "self" 983)] 0), #[]⟩
def o554_0 (P : Params) : Obj := ⟨(.type "tuple"), none, (.seq #[] 0), #[]⟩
def o555_0 (P : Params) : Obj := ⟨.none, none, (fO (mth 18 4) (sn "StringIO.__check_dot") [] .none .none .none .none none .none .none 0 0), #[]⟩
def o556_0 (P : Params) : Obj := ⟨(.type "code"), none, (.fields #[(vs "__check_dot" 980), (vs "StringIO.__check_dot" 981), (vs "/claim/cut.py" 982), (vi 329), (vi 1), (vi 0), (vi 0), (vi 3), (vr 551), (.bool true), (vi 317), (vr 552), .none, (vr 553), (vr 554), (vr 555), (vi 984), (vi 329), (vs "/claim/cut.py" 985)]), #[]⟩
def o557_0 (P : Params) : Obj := ⟨(.type "function"), none, (fO (mth 18 4) (sn "StringIO.__check_dot") [] .none .none .none (vs "io" 569) none (vr 556) .none 0 3), #[]⟩
def o558_0 (P : Params) : Obj := ⟨(.type "tuple"), none, (.seq #[] 0), #[]⟩
def o559_0 (P : Params) : Obj := ⟨.none, none, (.fields #[]), #[]⟩
def o560_0 (P : Params) : Obj := ⟨(.type "tuple"), none, (.seq #[(vs "self" 990), (vs "limit" 991), (vs "start" 992), (vs "stop" 993), (vs "cut" 994), (vs "newline" 995), (vs "i" 996), (vs "j" 997), (vs "end" 998)] 0), #[]⟩
def o561_0 (P : Params) : Obj := ⟨(.type "tuple"), none, (.seq #[] 0), #[]⟩
def o562_0 (P : Params) : Obj := ⟨.none, none, (fO (mth 18 5) (sn "StringIO.__line") [] .none .none .none .none none .none .none 0 0), #[]⟩
def o563_0 (P : Params) : Obj := ⟨(.type "code"), none, (.fields #[(vs "__line" 987), (vs "StringIO.__line" 988), (vs "/claim/cut.py" 989), (vi 333), (vi 2), (vi 0), (vi 0), (vi 3), (vr 558), (.bool true), (vi 317), (vr 559), .none, (vr 560), (vr 561), (vr 562), (vi 999), (vi 333), (vs "/claim/cut.py" 1000)]), #[]⟩
def o564_0 (P : Params) : Obj := ⟨(.type "function"), none, (fO (mth 18 5) (sn "StringIO.__line") [] .none .none .none (vs "io" 569) none (vr 563) .none 0 3), #[]⟩
def o565_0 (P : Params) : Obj := ⟨(.type "tuple"), none, (.seq #[] 0), #[]⟩
def o566_0 (P : Params) : Obj := ⟨.none, none, (.fields #[]), #[]⟩
def o567_0 (P : Params) : Obj := ⟨(.type "tuple"), none, (.seq #[(vs "self" 1005)] 0), #[]⟩
def o568_0 (P : Params) : Obj := ⟨(.type "tuple"), none, (.seq #[] 0), #[]⟩
def o569_0 (P : Params) : Obj := ⟨.none, none, (fO (mth 18 6) (sn "StringIO.closed") [] .none .none .none .none none .none .none 0 0), #[]⟩
def o570_0 (P : Params) : Obj := ⟨(.type "code"), none, (.fields #[(vs "closed" 1002), (vs "StringIO.closed" 1003), (vs "/claim/cut.py" 1004), (vi 365), (vi 1), (vi 0), (vi 0), (vi 3), (vr 565), (.bool true), (vi 317), (vr 566), .none, (vr 567), (vr 568), (vr 569), (vi 1006), (vi 365), (vs "/claim/cut.py" 1007)]), #[]⟩
def o571_0 (P : Params) : Obj := ⟨(.type "function"), none, (fO (mth 18 6) (sn "StringIO.closed") [] .none .none .none (vs "io" 569) none (vr 570) .none 0 3), #[]⟩
def o572_0 (P : Params) : Obj := ⟨(.type "property"), none, (.fields #[(vr 571), .none, .none, .none, (vs "closed" 1009), (.bool false)]), #[]⟩
def o573_0 (P : Params) : Obj := ⟨(.type "tuple"), none, (.seq #[] 0), #[]⟩
def o574_0 (P : Params) : Obj := ⟨.none, none, (.fields #[]), #[]⟩
def o575_0 (P : Params) : Obj := ⟨(.type "tuple"), none, (.seq #[(vs "self" 1013)] 0), #[]⟩
def o576_0 (P : Params) : Obj := ⟨(.type "tuple"), none, (.seq #[] 0), #[]⟩
def o577_0 (P : Params) : Obj := ⟨.none, none, (fO (mth 18 7) (sn "StringIO.line_buffering") [] .none .none .none .none none .none .none 0 0), #[]⟩
def o578_0 (P : Params) : Obj := ⟨(.type "code"), none, (.fields #[(vs "line_buffering" 1010), (vs "StringIO.line_buffering" 1011), (vs "/claim/cut.py" 1012), (vi 369), (vi 1), (vi 0), (vi 0), (vi 3), (vr 573), (.bool true), (vi 317), (vr 574), .none, (vr 575), (vr 576), (vr 577), (vi 1014), (vi 369), (vs "/claim/cut.py" 1015)]), #[]⟩
def o579_0 (P : Params) : Obj := ⟨(.type "function"), none, (fO (mth 18 7) (sn "StringIO.line_buffering") [] .none .none .none (vs "io" 569) none (vr 578) .none 0 3), #[]⟩
def o580_0 (P : Params) : Obj := ⟨(.type "property"), none, (.fields #[(vr 579), .none, .none, .none, (vs "line_buffering" 1017), (.bool false)]), #[]⟩
def o581_0 (P : Params) : Obj := ⟨(.type "tuple"), none, (.seq #[] 0), #[]⟩
def o582_0 (P : Params) : Obj := ⟨.none, none, (.fields #[]), #[]⟩
def o583_0 (P : Params) : Obj := ⟨(.type "tuple"), none, (.seq #[(vs "self" 1021)] 0), #[]⟩
def o584_0 (P : Params) : Obj := ⟨(.type "tuple"), none, (.seq #[] 0), #[]⟩
def o585_0 (P : Params) : Obj := ⟨.none, none, (fO (mth 18 8) (sn "StringIO.newlines") [] .none .none .none .none none .none .none 0 0), #[]⟩
def o586_0 (P : Params) : Obj := ⟨(.type "code"), none, (.fields #[(vs "newlines" 1018), (vs "StringIO.newlines" 1019), (vs "/claim/cut.py" 1020), (vi 373), (vi 1), (vi 0), (vi 0), (vi 3), (vr 581), (.bool true), (vi 317), (vr 582), .none, (vr 583), (vr 584), (vr 585), (vi 1022), (vi 373), (vs "/claim/cut.py" 1023)]), #[]⟩
def o587_0 (P : Params) : Obj := ⟨(.type "function"), none, (fO (mth 18 8) (sn "StringIO.newlines") [] .none .none .none (vs "io" 569) none (vr 586) .none 0 3), #[]⟩
def o588_0 (P : Params) : Obj := ⟨(.type "property"), none, (.fields #[(vr 587), .none, .none, .none, (vs "newlines" 1025), (.bool false)]), #[]⟩
def o589_0 (P : Params) : Obj := ⟨(.type "tuple"), none, (.seq #[] 0), #[]⟩
def o590_0 (P : Params) : Obj := ⟨.none, none, (.fields #[]), #[]⟩
def o591_0 (P : Params) : Obj := ⟨(.type "tuple"), none, (.seq #[(vs "self" 1029)] 0), #[]⟩
def o592_0 (P : Params) : Obj := ⟨(.type "tuple"), none, (.seq #[] 0), #[]⟩
def o593_0 (P : Params) : Obj := ⟨.none, none, (fO (mth 18 9) (sn "StringIO.encoding") [] .none .none .none .none none .none .none 0 0), #[]⟩
def o594_0 (P : Params) : Obj := ⟨(.type "code"), none, (.fields #[(vs "encoding" 1026), (vs "StringIO.encoding" 1027), (vs "/claim/cut.py" 1028), (vi 377), (vi 1), (vi 0), (vi 0), (vi 3), (vr 589), (.bool true), (vi 317), (vr 590), .none, (vr 591), (vr 592), (vr 593), (vi 1030), (vi 377), (vs "/claim/cut.py" 1031)]), #[]⟩
def o595_0 (P : Params) : Obj := ⟨(.type "function"), none, (fO (mth 18 9) (sn "StringIO.encoding") [] .none .none .none (vs "io" 569) none (vr 594) .none 0 3), #[]⟩
def o596_0 (P : Params) : Obj := ⟨(.type "property"), none, (.fields #[(vr 595), .none, .none, .none, (vs "encoding" 1033), (.bool false)]), #[]⟩
def o597_0 (P : Params) : Obj := ⟨(.type "tuple"), none, (.seq #[] 0), #[]⟩
def o598_0 (P : Params) : Obj := ⟨.none, none, (.fields #[]), #[]⟩
def o599_0 (P : Params) : Obj := ⟨(.type "tuple"), none, (.seq #[(vs "self" 1037)] 0), #[]⟩
def o600_0 (P : Params) : Obj := ⟨(.type "tuple"), none, (.seq #[] 0), #[]⟩
def o601_0 (P : Params) : Obj := ⟨.none, none, (fO (mth 18 10) (sn "StringIO.errors") [] .none .none .none .none none .none .none 0 0), #[]⟩
def o602_0 (P : Params) : Obj := ⟨(.type "code"), none, (.fields #[(vs "errors" 1034), (vs "StringIO.errors" 1035), (vs "/claim/cut.py" 1036), (vi 381), (vi 1), (vi 0), (vi 0), (vi 3), (vr 597), (.bool true), (vi 317), (vr 598), .none, (vr 599), (vr 600), (vr 601), (vi 1038), (vi 381), (vs "/claim/cut.py" 1039)]), #[]⟩
def o603_0 (P : Params) : Obj := ⟨(.type "function"), none, (fO (mth 18 10) (sn "StringIO.errors") [] .none .none .none (vs "io" 569) none (vr 602) .none 0 3), #[]⟩
def o604_0 (P : Params) : Obj := ⟨(.type "property"), none, (.fields #[(vr 603), .none, .none, .none, (vs "errors" 1041), (.bool false)]), #[]⟩
def o605_0 (P : Params) : Obj := ⟨(.type "tuple"), none, (.seq #[] 0), #[]⟩
def o606_0 (P : Params) : Obj := ⟨.none, none, (.fields #[]), #[]⟩
def o607_0 (P : Params) : Obj := ⟨(.type "tuple"), none, (.seq #[(vs "self" 1045)] 0), #[]⟩
def o608_0 (P : Params) : Obj := ⟨(.type "tuple"), none, (.seq #[] 0), #[]⟩
def o609_0 (P : Params) : Obj := ⟨.none, none, (fO (mth 18 11) (sn "StringIO.close") [] .none .none .none .none none .none .none 0 0), #[]⟩
def o610_0 (P : Params) : Obj := ⟨(.type "code"), none, (.fields #[(vs "close" 1042), (vs "StringIO.close" 1043), (vs "/claim/cut.py" 1044), (vi 385), (vi 1), (vi 0), (vi 0), (vi 3), (vr 605), (.bool true), (vi 317), (vr 606), .none, (vr 607), (vr 608), (vr 609), (vi 1046), (vi 385), (vs "/claim/cut.py" 1047)]), #[]⟩
def o611_0 (P : Params) : Obj := ⟨(.type "function"), none, (fO (mth 18 11) (sn "StringIO.close") [] .none .none .none (vs "io" 569) none (vr 610) .none 0 3), #[]⟩
def o612_0 (P : Params) : Obj := ⟨(.type "tuple"), none, (.seq #[] 0), #[]⟩
def o613_0 (P : Params) : Obj := ⟨.none, none, (.fields #[]), #[]⟩
def o614_0 (P : Params) : Obj := ⟨(.type "tuple"), none, (.seq #[(vs "self" 1052)] 0), #[]⟩
def o615_0 (P : Params) : Obj := ⟨(.type "tuple"), none, (.seq #[] 0), #[]⟩
def o616_0 (P : Params) : Obj := ⟨.none, none, (fO (mth 18 12) (sn "StringIO.__enter__") [] .none .none .none .none none .none .none 0 0), #[]⟩
def o617_0 (P : Params) : Obj := ⟨(.type "code"), none, (.fields #[(vs "__enter__" 1049), (vs "StringIO.__enter__" 1050), (vs "/claim/cut.py" 1051), (vi 388), (vi 1), (vi 0), (vi 0), (vi 3), (vr 612), (.bool true), (vi 317), (vr 613), .none, (vr 614), (vr 615), (vr 616), (vi 1053), (vi 388), (vs "/claim/cut.py" 1054)]), #[]⟩
def o618_0 (P : Params) : Obj := ⟨(.type "function"), none, (fO (mth 18 12) (sn "StringIO.__enter__") [] .none .none .none (vs "io" 569) none (vr 617) .none 0 3), #[]⟩
def o619_0 (P : Params) : Obj := ⟨(.type "tuple"), none, (.seq #[] 0), #[]⟩
def o620_0 (P : Params) : Obj := ⟨.none, none, (.fields #[]), #[]⟩
def o621_0 (P : Params) : Obj := ⟨(.type "tuple"), none, (.seq #[(vs "self" 1059), (vs "args" 1060)] 0), #[]⟩
def o622_0 (P : Params) : Obj := ⟨(.type "tuple"), none, (.seq #[] 0), #[]⟩
def o623_0 (P : Params) : Obj := ⟨.none, none, (fO (mth 18 13) (sn "StringIO.__exit__") [] .none .none .none .none none .none .none 0 0), #[]⟩
def o624_0 (P : Params) : Obj := ⟨(.type "code"), none, (.fields #[(vs "__exit__" 1056), (vs "StringIO.__exit__" 1057), (vs "/claim/cut.py" 1058), (vi 392), (vi 1), (vi 0), (vi 0), (vi 7), (vr 619), (.bool true), (vi 317), (vr 620), .none, (vr 621), (vr 622), (vr 623), (vi 1061), (vi 392), (vs "/claim/cut.py" 1062)]), #[]⟩
def o625_0 (P : Params) : Obj := ⟨(.type "function"), none, (fO (mth 18 13) (sn "StringIO.__exit__") [] .none .none .none (vs "io" 569) none (vr 624) .none 0 3), #[]⟩
def o626_0 (P : Params) : Obj := ⟨(.type "tuple"), none, (.seq #[] 0), #[]⟩
def o627_0 (P : Params) : Obj := ⟨.none, none, (.fields #[]), #[]⟩
def o628_0 (P : Params) : Obj := ⟨(.type "tuple"), none, (.seq #[(vs "self" 1067)] 0), #[]⟩
def o629_0 (P : Params) : Obj := ⟨(.type "tuple"), none, (.seq #[] 0), #[]⟩
def o630_0 (P : Params) : Obj := ⟨.none, none, (fO (mth 18 14) (sn "StringIO.readable") [] .none .none .none .none none .none .none 0 0), #[]⟩
def o631_0 (P : Params) : Obj := ⟨(.type "code"), none, (.fields #[(vs "readable" 1064), (vs "StringIO.readable" 1065), (vs "/claim/cut.py" 1066), (vi 395), (vi 1), (vi 0), (vi 0), (vi 3), (vr 626), (.bool true), (vi 317), (vr 627), .none, (vr 628), (vr 629), (vr 630), (vi 1068), (vi 395), (vs "/claim/cut.py" 1069)]), #[]⟩
def o632_0 (P : Params) : Obj := ⟨(.type "function"), none, (fO (mth 18 14) (sn "StringIO.readable") [] .none .none .none (vs "io" 569) none (vr 631) .none 0 3), #[]⟩
def o633_0 (P : Params) : Obj := ⟨(.type "tuple"), none, (.seq #[] 0), #[]⟩
def o634_0 (P : Params) : Obj := ⟨.none, none, (.fields #[]), #[]⟩
def o635_0 (P : Params) : Obj := ⟨(.type "tuple"), none, (.seq #[(vs "self" 1074)] 0), #[]⟩
def o636_0 (P : Params) : Obj := ⟨(.type "tuple"), none, (.seq #[] 0), #[]⟩
def o637_0 (P : Params) : Obj := ⟨.none, none, (fO (mth 18 15) (sn "StringIO.writable") [] .none .none .none .none none .none .none 0 0), #[]⟩
def o638_0 (P : Params) : Obj := ⟨(.type "code"), none, (.fields #[(vs "writable" 1071), (vs "StringIO.writable" 1072), (vs "/claim/cut.py" 1073), (vi 399), (vi 1), (vi 0), (vi 0), (vi 3), (vr 633), (.bool true), (vi 317), (vr 634), .none, (vr 635), (vr 636), (vr 637), (vi 1075), (vi 399), (vs "/claim/cut.py" 1076)]), #[]⟩
def o639_0 (P : Params) : Obj := ⟨(.type "function"), none, (fO (mth 18 15) (sn "StringIO.writable") [] .none .none .none (vs "io" 569) none (vr 638) .none 0 3), #[]⟩
def o640_0 (P : Params) : Obj := ⟨(.type "tuple"), none, (.seq #[] 0), #[]⟩
def o641_0 (P : Params) : Obj := ⟨.none, none, (.fields #[]), #[]⟩
def o642_0 (P : Params) : Obj := ⟨(.type "tuple"), none, (.seq #[(vs "self" 1081)] 0), #[]⟩
def o643_0 (P : Params) : Obj := ⟨(.type "tuple"), none, (.seq #[] 0), #[]⟩
def o644_0 (P : Params) : Obj := ⟨.none, none, (fO (mth 18 16) (sn "StringIO.seekable") [] .none .none .none .none none .none .none 0 0), #[]⟩
def o645_0 (P : Params) : Obj := ⟨(.type "code"), none, (.fields #[(vs "seekable" 1078), (vs "StringIO.seekable" 1079), (vs "/claim/cut.py" 1080), (vi 403), (vi 1), (vi 0), (vi 0), (vi 3), (vr 640), (.bool true), (vi 317), (vr 641), .none, (vr 642), (vr 643), (vr 644), (vi 1082), (vi 403), (vs "/claim/cut.py" 1083)]), #[]⟩
def o646_0 (P : Params) : Obj := ⟨(.type "function"), none, (fO (mth 18 16) (sn "StringIO.seekable") [] .none .none .none (vs "io" 569) none (vr 645) .none 0 3), #[]⟩
def o647_0 (P : Params) : Obj := ⟨(.type "tuple"), none, (.seq #[] 0), #[]⟩
def o648_0 (P : Params) : Obj := ⟨.none, none, (.fields #[]), #[]⟩
def o649_0 (P : Params) : Obj := ⟨(.type "tuple"), none, (.seq #[(vs "self" 1088)] 0), #[]⟩
def o650_0 (P : Params) : Obj := ⟨(.type "tuple"), none, (.seq #[] 0), #[]⟩
def o651_0 (P : Params) : Obj := ⟨.none, none, (fO (mth 18 17) (sn "StringIO.isatty") [] .none .none .none .none none .none .none 0 0), #[]⟩
def o652_0 (P : Params) : Obj := ⟨(.type "code"), none, (.fields #[(vs "isatty" 1085), (vs "StringIO.isatty" 1086), (vs "/claim/cut.py" 1087), (vi 407), (vi 1), (vi 0), (vi 0), (vi 3), (vr 647), (.bool true), (vi 317), (vr 648), .none, (vr 649), (vr 650), (vr 651), (vi 1089), (vi 407), (vs "/claim/cut.py" 1090)]), #[]⟩
def o653_0 (P : Params) : Obj := ⟨(.type "function"), none, (fO (mth 18 17) (sn "StringIO.isatty") [] .none .none .none (vs "io" 569) none (vr 652) .none 0 3), #[]⟩
def o654_0 (P : Params) : Obj := ⟨(.type "tuple"), none, (.seq #[] 0), #[]⟩
def o655_0 (P : Params) : Obj := ⟨.none, none, (.fields #[]), #[]⟩
def o656_0 (P : Params) : Obj := ⟨(.type "tuple"), none, (.seq #[(vs "self" 1095)] 0), #[]⟩
def o657_0 (P : Params) : Obj := ⟨(.type "tuple"), none, (.seq #[] 0), #[]⟩
def o658_0 (P : Params) : Obj := ⟨.none, none, (fO (mth 18 18) (sn "StringIO.flush") [] .none .none .none .none none .none .none 0 0), #[]⟩
def o659_0 (P : Params) : Obj := ⟨(.type "code"), none, (.fields #[(vs "flush" 1092), (vs "StringIO.flush" 1093), (vs "/claim/cut.py" 1094), (vi 411), (vi 1), (vi 0), (vi 0), (vi 3), (vr 654), (.bool true), (vi 317), (vr 655), .none, (vr 656), (vr 657), (vr 658), (vi 1096), (vi 411), (vs "/claim/cut.py" 1097)]), #[]⟩
def o660_0 (P : Params) : Obj := ⟨(.type "function"), none, (fO (mth 18 18) (sn "StringIO.flush") [] .none .none .none (vs "io" 569) none (vr 659) .none 0 3), #[]⟩
def o661_0 (P : Params) : Obj := ⟨(.type "tuple"), none, (.seq #[] 0), #[]⟩
def o662_0 (P : Params) : Obj := ⟨.none, none, (.fields #[]), #[]⟩
def o663_0 (P : Params) : Obj := ⟨(.type "tuple"), none, (.seq #[(vs "self" 1102)] 0), #[]⟩
def o664_0 (P : Params) : Obj := ⟨(.type "tuple"), none, (.seq #[] 0), #[]⟩
def o665_0 (P : Params) : Obj := ⟨.none, none, (fO (mth 18 19) (sn "StringIO.fileno") [] .none .none .none .none none .none .none 0 0), #[]⟩
def o666_0 (P : Params) : Obj := ⟨(.type "code"), none, (.fields #[(vs "fileno" 1099), (vs "StringIO.fileno" 1100), (vs "/claim/cut.py" 1101), (vi 414), (vi 1), (vi 0), (vi 0), (vi 3), (vr 661), (.bool true), (vi 317), (vr 662), .none, (vr 663), (vr 664), (vr 665), (vi 1103), (vi 414), (vs "/claim/cut.py" 1104)]), #[]⟩
def o667_0 (P : Params) : Obj := ⟨(.type "function"), none, (fO (mth 18 19) (sn "StringIO.fileno") [] .none .none .none (vs "io" 569) none (vr 666) .none 0 3), #[]⟩
def o668_0 (P : Params) : Obj := ⟨(.type "tuple"), none, (.seq #[] 0), #[]⟩
def o669_0 (P : Params) : Obj := ⟨.none, none, (.fields #[]), #[]⟩
def o670_0 (P : Params) : Obj := ⟨(.type "tuple"), none, (.seq #[(vs "self" 1109)] 0), #[]⟩
def o671_0 (P : Params) : Obj := ⟨(.type "tuple"), none, (.seq #[] 0), #[]⟩
def o672_0 (P : Params) : Obj := ⟨.none, none, (fO (mth 18 20) (sn "StringIO.detach") [] .none .none .none .none none .none .none 0 0), #[]⟩
def o673_0 (P : Params) : Obj := ⟨(.type "code"), none, (.fields #[(vs "detach" 1106), (vs "StringIO.detach" 1107), (vs "/claim/cut.py" 1108), (vi 417), (vi 1), (vi 0), (vi 0), (vi 3), (vr 668), (.bool true), (vi 317), (vr 669), .none, (vr 670), (vr 671), (vr 672), (vi 1110), (vi 417), (vs "/claim/cut.py" 1111)]), #[]⟩
def o674_0 (P : Params) : Obj := ⟨(.type "function"), none, (fO (mth 18 20) (sn "StringIO.detach") [] .none .none .none (vs "io" 569) none (vr 673) .none 0 3), #[]⟩
def o675_0 (P : Params) : Obj := ⟨(.type "tuple"), none, (.seq #[] 0), #[]⟩
def o676_0 (P : Params) : Obj := ⟨.none, none, (.fields #[]), #[]⟩
def o677_0 (P : Params) : Obj := ⟨(.type "tuple"), none, (.seq #[(vs "self" 1116)] 0), #[]⟩
def o678_0 (P : Params) : Obj := ⟨(.type "tuple"), none, (.seq #[] 0), #[]⟩
def o679_0 (P : Params) : Obj := ⟨.none, none, (fO (mth 18 21) (sn "StringIO.getvalue") [] .none .none .none .none none .none .none 0 0), #[]⟩
def o680_0 (P : Params) : Obj := ⟨(.type "code"), none, (.fields #[(vs "getvalue" 1113), (vs "StringIO.getvalue" 1114), (vs "/claim/cut.py" 1115), (vi 420), (vi 1), (vi 0), (vi 0), (vi 3), (vr 675), (.bool true), (vi 317), (vr 676), .none, (vr 677), (vr 678), (vr 679), (vi 1117), (vi 420), (vs "/claim/cut.py" 1118)]), #[]⟩
def o681_0 (P : Params) : Obj := ⟨(.type "function"), none, (fO (mth 18 21) (sn "StringIO.getvalue") [] .none .none .none (vs "io" 569) none (vr 680) .none 0 3), #[]⟩
def o682_0 (P : Params) : Obj := ⟨(.type "tuple"), none, (.seq #[] 0), #[]⟩
def o683_0 (P : Params) : Obj := ⟨.none, none, (.fields #[]), #[]⟩
def o684_0 (P : Params) : Obj := ⟨(.type "tuple"), none, (.seq #[(vs "self" 1123)] 0), #[]⟩
def o685_0 (P : Params) : Obj := ⟨(.type "tuple"), none, (.seq #[] 0), #[]⟩
def o686_0 (P : Params) : Obj := ⟨.none, none, (fO (mth 18 22) (sn "StringIO.tell") [] .none .none .none .none none .none .none 0 0), #[]⟩
def o687_0 (P : Params) : Obj := ⟨(.type "code"), none, (.fields #[(vs "tell" 1120), (vs "StringIO.tell" 1121), (vs "/claim/cut.py" 1122), (vi 424), (vi 1), (vi 0), (vi 0), (vi 3), (vr 682), (.bool true), (vi 317), (vr 683), .none, (vr 684), (vr 685), (vr 686), (vi 1124), (vi 424), (vs "/claim/cut.py" 1125)]), #[]⟩
def o688_0 (P : Params) : Obj := ⟨(.type "function"), none, (fO (mth 18 22) (sn "StringIO.tell") [] .none .none .none (vs "io" 569) none (vr 687) .none 0 3), #[]⟩
def o689_0 (P : Params) : Obj := ⟨(.type "tuple"), none, (.seq #[(.int 0 1127)] 0), #[]⟩
def o690_0 (P : Params) : Obj := ⟨(.type "tuple"), none, (.seq #[] 0), #[]⟩
def o691_0 (P : Params) : Obj := ⟨.none, none, (.fields #[]), #[]⟩
def o692_0 (P : Params) : Obj := ⟨(.type "tuple"), none, (.seq #[(vs "self" 1131), (vs "pos" 1132), (vs "whence" 1133)] 0), #[]⟩
def o693_0 (P : Params) : Obj := ⟨(.type "tuple"), none, (.seq #[] 0), #[]⟩
def o694_0 (P : Params) : Obj := ⟨.none, none, (fO (mth 18 23) (sn "StringIO.seek") [] .none .none .none .none none .none .none 0 0), #[]⟩
def o695_0 (P : Params) : Obj := ⟨(.type "code"), none, (.fields #[(vs "seek" 1128), (vs "StringIO.seek" 1129), (vs "/claim/cut.py" 1130), (vi 428), (vi 3), (vi 3), (vi 0), (vi 3), (vr 690), (.bool true), (vi 317), (vr 691), .none, (vr 692), (vr 693), (vr 694), (vi 1134), (vi 428), (vs "/claim/cut.py" 1135)]), #[]⟩
def o696_0 (P : Params) : Obj := ⟨(.type "function"), none, (fO (mth 18 23) (sn "StringIO.seek") [] (vr 689) .none .none (vs "io" 569) none (vr 695) .none 0 3), #[]⟩
def o697_0 (P : Params) : Obj := ⟨(.type "tuple"), none, (.seq #[.none] 0), #[]⟩
def o698_0 (P : Params) : Obj := ⟨(.type "tuple"), none, (.seq #[] 0), #[]⟩
def o699_0 (P : Params) : Obj := ⟨.none, none, (.fields #[]), #[]⟩
def o700_0 (P : Params) : Obj := ⟨(.type "tuple"), none, (.seq #[(vs "self" 1140), (vs "pos" 1141)] 0), #[]⟩
def o701_0 (P : Params) : Obj := ⟨(.type "tuple"), none, (.seq #[] 0), #[]⟩
def o702_0 (P : Params) : Obj := ⟨.none, none, (fO (mth 18 24) (sn "StringIO.truncate") [] .none .none .none .none none .none .none 0 0), #[]⟩
def o703_0 (P : Params) : Obj := ⟨(.type "code"), none, (.fields #[(vs "truncate" 1137), (vs "StringIO.truncate" 1138), (vs "/claim/cut.py" 1139), (vi 445), (vi 2), (vi 2), (vi 0), (vi 3), (vr 698), (.bool true), (vi 317), (vr 699), .none, (vr 700), (vr 701), (vr 702), (vi 1142), (vi 445), (vs "/claim/cut.py" 1143)]), #[]⟩
def o704_0 (P : Params) : Obj := ⟨(.type "function"), none, (fO (mth 18 24) (sn "StringIO.truncate") [] (vr 697) .none .none (vs "io" 569) none (vr 703) .none 0 3), #[]⟩
def o705_0 (P : Params) : Obj := ⟨(.type "tuple"), none, (.seq #[(.int (-1) 1146)] 0), #[]⟩
def o706_0 (P : Params) : Obj := ⟨(.type "tuple"), none, (.seq #[] 0), #[]⟩
def o707_0 (P : Params) : Obj := ⟨.none, none, (.fields #[]), #[]⟩
def o708_0 (P : Params) : Obj := ⟨(.type "tuple"), none, (.seq #[(vs "self" 1150), (vs "size" 1151), (vs "start" 1152), (vs "stop" 1153)] 0), #[]⟩
def o709_0 (P : Params) : Obj := ⟨(.type "tuple"), none, (.seq #[] 0), #[]⟩
def o710_0 (P : Params) : Obj := ⟨.none, none, (fO (mth 18 25) (sn "StringIO.read") [] .none .none .none .none none .none .none 0 0), #[]⟩
def o711_0 (P : Params) : Obj := ⟨(.type "code"), none, (.fields #[(vs "read" 1147), (vs "StringIO.read" 1148), (vs "/claim/cut.py" 1149), (vi 448), (vi 2), (vi 2), (vi 0), (vi 3), (vr 706), (.bool true), (vi 317), (vr 707), .none, (vr 708), (vr 709), (vr 710), (vi 1154), (vi 448), (vs "/claim/cut.py" 1155)]), #[]⟩
def o712_0 (P : Params) : Obj := ⟨(.type "function"), none, (fO (mth 18 25) (sn "StringIO.read") [] (vr 705) .none .none (vs "io" 569) none (vr 711) .none 0 3), #[]⟩
def o713_0 (P : Params) : Obj := ⟨(.type "tuple"), none, (.seq #[(.int (-1) 1158)] 0), #[]⟩
def o714_0 (P : Params) : Obj := ⟨(.type "tuple"), none, (.seq #[] 0), #[]⟩
def o715_0 (P : Params) : Obj := ⟨.none, none, (.fields #[]), #[]⟩
def o716_0 (P : Params) : Obj := ⟨(.type "tuple"), none, (.seq #[(vs "self" 1162), (vs "size" 1163)] 0), #[]⟩
def o717_0 (P : Params) : Obj := ⟨(.type "tuple"), none, (.seq #[] 0), #[]⟩
def o718_0 (P : Params) : Obj := ⟨.none, none, (fO (mth 18 26) (sn "StringIO.readline") [] .none .none .none .none none .none .none 0 0), #[]⟩
def o719_0 (P : Params) : Obj := ⟨(.type "code"), none, (.fields #[(vs "readline" 1159), (vs "StringIO.readline" 1160), (vs "/claim/cut.py" 1161), (vi 462), (vi 2), (vi 2), (vi 0), (vi 3), (vr 714), (.bool true), (vi 317), (vr 715), .none, (vr 716), (vr 717), (vr 718), (vi 1164), (vi 462), (vs "/claim/cut.py" 1165)]), #[]⟩
def o720_0 (P : Params) : Obj := ⟨(.type "function"), none, (fO (mth 18 26) (sn "StringIO.readline") [] (vr 713) .none .none (vs "io" 569) none (vr 719) .none 0 3), #[]⟩
def o721_0 (P : Params) : Obj := ⟨(.type "tuple"), none, (.seq #[(.int (-1) 1168)] 0), #[]⟩
def o722_0 (P : Params) : Obj := ⟨(.type "tuple"), none, (.seq #[] 0), #[]⟩
def o723_0 (P : Params) : Obj := ⟨.none, none, (.fields #[]), #[]⟩
def o724_0 (P : Params) : Obj := ⟨(.type "tuple"), none, (.seq #[(vs "self" 1172), (vs "hint" 1173)] 0), #[]⟩
def o725_0 (P : Params) : Obj := ⟨(.type "tuple"), none, (.seq #[] 0), #[]⟩
def o726_0 (P : Params) : Obj := ⟨.none, none, (fO (mth 18 27) (sn "StringIO.readlines") [] .none .none .none .none none .none .none 0 0), #[]⟩
def o727_0 (P : Params) : Obj := ⟨(.type "code"), none, (.fields #[(vs "readlines" 1169), (vs "StringIO.readlines" 1170), (vs "/claim/cut.py" 1171), (vi 469), (vi 2), (vi 2), (vi 0), (vi 3), (vr 722), (.bool true), (vi 317), (vr 723), .none, (vr 724), (vr 725), (vr 726), (vi 1174), (vi 469), (vs "/claim/cut.py" 1175)]), #[]⟩
def o728_0 (P : Params) : Obj := ⟨(.type "function"), none, (fO (mth 18 27) (sn "StringIO.readlines") [] (vr 721) .none .none (vs "io" 569) none (vr 727) .none 0 3), #[]⟩
def o729_0 (P : Params) : Obj := ⟨(.type "tuple"), none, (.seq #[] 0), #[]⟩
def o730_0 (P : Params) : Obj := ⟨.none, none, (.fields #[]), #[]⟩
def o731_0 (P : Params) : Obj := ⟨(.type "tuple"), none, (.seq #[(vs "self" 1180)] 0), #[]⟩
def o732_0 (P : Params) : Obj := ⟨(.type "tuple"), none, (.seq #[] 0), #[]⟩
def o733_0 (P : Params) : Obj := ⟨.none, none, (fO (mth 18 28) (sn "StringIO.__iter__") [] .none .none .none .none none .none .none 0 0), #[]⟩
def o734_0 (P : Params) : Obj := ⟨(.type "code"), none, (.fields #[(vs "__iter__" 1177), (vs "StringIO.__iter__" 1178), (vs "/claim/cut.py" 1179), (vi 472), (vi 1), (vi 0), (vi 0), (vi 3), (vr 729), (.bool true), (vi 317), (vr 730), .none, (vr 731), (vr 732), (vr 733), (vi 1181), (vi 472), (vs "/claim/cut.py" 1182)]), #[]⟩
def o735_0 (P : Params) : Obj := ⟨(.type "function"), none, (fO (mth 18 28) (sn "StringIO.__iter__") [] .none .none .none (vs "io" 569) none (vr 734) .none 0 3), #[]⟩
def o736_0 (P : Params) : Obj := ⟨(.type "tuple"), none, (.seq #[] 0), #[]⟩
def o737_0 (P : Params) : Obj := ⟨.none, none, (.fields #[]), #[]⟩
def o738_0 (P : Params) : Obj := ⟨(.type "tuple"), none, (.seq #[(vs "self" 1187), (vs "line" 1188)] 0), #[]⟩
def o739_0 (P : Params) : Obj := ⟨(.type "tuple"), none, (.seq #[] 0), #[]⟩
def o740_0 (P : Params) : Obj := ⟨.none, none, (fO (mth 18 29) (sn "StringIO.__next__") [] .none .none .none .none none .none .none 0 0), #[]⟩
def o741_0 (P : Params) : Obj := ⟨(.type "code"), none, (.fields #[(vs "__next__" 1184), (vs "StringIO.__next__" 1185), (vs "/claim/cut.py" 1186), (vi 476), (vi 1), (vi 0), (vi 0), (vi 3), (vr 736), (.bool true), (vi 317), (vr 737), .none, (vr 738), (vr 739), (vr 740), (vi 1189), (vi 476), (vs "/claim/cut.py" 1190)]), #[]⟩
def o742_0 (P : Params) : Obj := ⟨(.type "function"), none, (fO (mth 18 29) (sn "StringIO.__next__") [] .none .none .none (vs "io" 569) none (vr 741) .none 0 3), #[]⟩
def o743_0 (P : Params) : Obj := ⟨(.type "tuple"), none, (.seq #[] 0), #[]⟩
def o744_0 (P : Params) : Obj := ⟨.none, none, (.fields #[]), #[]⟩
def o745_0 (P : Params) : Obj := ⟨(.type "tuple"), none, (.seq #[(vs "self" 1195), (vs "s" 1196), (vs "n" 1197), (vs "m" 1198), (vs "start" 1199), (vs "buf" 1200)] 0), #[]⟩
def o746_0 (P : Params) : Obj := ⟨(.type "tuple"), none, (.seq #[] 0), #[]⟩
def o747_0 (P : Params) : Obj := ⟨.none, none, (fO (mth 18 30) (sn "StringIO.write") [] .none .none .none .none none .none .none 0 0), #[]⟩
def o748_0 (P : Params) : Obj := ⟨(.type "code"), none, (.fields #[(vs "write" 1192), (vs "StringIO.write" 1193), (vs "/claim/cut.py" 1194), (vi 483), (vi 2), (vi 2), (vi 0), (vi 3), (vr 743), (.bool true), (vi 317), (vr 744), .none, (vr 745), (vr 746), (vr 747), (vi 1201), (vi 483), (vs "/claim/cut.py" 1202)]), #[]⟩
def o749_0 (P : Params) : Obj := ⟨(.type "function"), none, (fO (mth 18 30) (sn "StringIO.write") [] .none .none .none (vs "io" 569) none (vr 748) .none 0 3), #[]⟩
def o750_0 (P : Params) : Obj := ⟨(.type "tuple"), none, (.seq #[] 0), #[]⟩
def o751_0 (P : Params) : Obj := ⟨.none, none, (.fields #[]), #[]⟩
def o752_0 (P : Params) : Obj := ⟨(.type "tuple"), none, (.seq #[(vs "self" 1207), (vs "lines" 1208)] 0), #[]⟩
def o753_0 (P : Params) : Obj := ⟨(.type "tuple"), none, (.seq #[] 0), #[]⟩
def o754_0 (P : Params) : Obj := ⟨.none, none, (fO (mth 18 31) (sn "StringIO.writelines") [] .none .none .none .none none .none .none 0 0), #[]⟩
def o755_0 (P : Params) : Obj := ⟨(.type "code"), none, (.fields #[(vs "writelines" 1204), (vs "StringIO.writelines" 1205), (vs "/claim/cut.py" 1206), (vi 502), (vi 2), (vi 2), (vi 0), (vi 3), (vr 750), (.bool true), (vi 317), (vr 751), .none, (vr 752), (vr 753), (vr 754), (vi 1209), (vi 502), (vs "/claim/cut.py" 1210)]), #[]⟩
def o756_0 (P : Params) : Obj := ⟨(.type "function"), none, (fO (mth 18 31) (sn "StringIO.writelines") [] .none .none .none (vs "io" 569) none (vr 755) .none 0 3), #[]⟩
def o757_0 (P : Params) : Obj := ⟨(.type "tuple"), none, (.seq #[] 0), #[]⟩
def o758_0 (P : Params) : Obj := ⟨.none, none, (.fields #[]), #[]⟩
def o759_0 (P : Params) : Obj := ⟨(.type "tuple"), none, (.seq #[(vs "self" 1215)] 0), #[]⟩
def o760_0 (P : Params) : Obj := ⟨(.type "tuple"), none, (.seq #[] 0), #[]⟩
def o761_0 (P : Params) : Obj := ⟨.none, none, (fO (mth 18 32) (sn "StringIO.__repr__") [] .none .none .none .none none .none .none 0 0), #[]⟩
def o762_0 (P : Params) : Obj := ⟨(.type "code"), none, (.fields #[(vs "__repr__" 1212), (vs "StringIO.__repr__" 1213), (vs "/claim/cut.py" 1214), (vi 505), (vi 1), (vi 0), (vi 0), (vi 3), (vr 757), (.bool true), (vi 317), (vr 758), .none, (vr 759), (vr 760), (vr 761), (vi 1216), (vi 505), (vs "/claim/cut.py" 1217)]), #[]⟩
def o763_0 (P : Params) : Obj := ⟨(.type "function"), none, (fO (mth 18 32) (sn "StringIO.__repr__") [] .none .none .none (vs "io" 569) none (vr 762) .none 0 3), #[]⟩
def o764_0 (P : Params) : Obj := ⟨(.type "tuple"), none, (.seq #[(vs "__buf" 1219), (vs "__newline" 1220), (vs "__pos" 1221)] 0), #[]⟩
def o765_0 (P : Params) : Obj := ⟨(.type "dict"), none, (.dict #[de P "__module__" 946 (vs "_io" 951), de P "__firstlineno__" 950 (.int 301 949), de P "__init__" 963 (vr 536), de P "_StringIO__translated" 972 (vr 543), de P "_StringIO__check" 979 (vr 550), de P "_StringIO__check_dot" 986 (vr 557), de P "_StringIO__line" 1001 (vr 564), de P "closed" 1009 (vr 572), de P "line_buffering" 1017 (vr 580), de P "newlines" 1025 (vr 588), de P "encoding" 1033 (vr 596), de P "errors" 1041 (vr 604), de P "close" 1048 (vr 611), de P "__enter__" 1055 (vr 618), de P "__exit__" 1063 (vr 625), de P "readable" 1070 (vr 632), de P "writable" 1077 (vr 639), de P "seekable" 1084 (vr 646), de P "isatty" 1091 (vr 653), de P "flush" 1098 (vr 660), de P "fileno" 1105 (vr 667), de P "detach" 1112 (vr 674), de P "getvalue" 1119 (vr 681), de P "tell" 1126 (vr 688), de P "seek" 1136 (vr 696), de P "truncate" 1144 (vr 704), de P "read" 1156 (vr 712), de P "readline" 1166 (vr 720), de P "readlines" 1176 (vr 728), de P "__iter__" 1183 (vr 735), de P "__next__" 1191 (vr 742), de P "write" 1203 (vr 749), de P "writelines" 1211 (vr 756), de P "__repr__" 1218 (vr 763), de P "__static_attributes__" 1222 (vr 764), de P "__doc__" 1223 .none] 2), #[]⟩
def o766_0 (P : Params) : Obj := ⟨(.type "type"), none, (.cls { name := sn "StringIO", bases := [(vr 289)], mro := [(vr 766), (vr 289), (vr 262), (.type "object")], ns := 765, qualname := sn "StringIO", hasDict := true, slotNames := [], subclasses := [], abstract := false, collection := none, hasDel := false }), #[(some (vr 522)), none, (some (vs "StringIO" 939)), (some (vs "StringIO" 947)), (some .none), (some (.bool true))]⟩
def o767_0 (P : Params) : Obj := ⟨(.type "super"), none, (.fields #[(vr 766), (vr 766), (vr 766)]), #[]⟩
def o768_0 (P : Params) : Obj := ⟨(.type "builtin_function_or_method"), none, (.fields #[(.builtin "object.__init_subclass__"), (vr 766)]), #[]⟩
def o769_0 (P : Params) : Obj := ⟨(.type "tuple"), none, (.seq #[] 0), #[]⟩
def o770_0 (P : Params) : Obj := ⟨(.type "builtin_function_or_method"), none, (.fields #[(.builtin "type.__prepare__"), (.type "type")]), #[]⟩
def o771_0 (P : Params) : Obj := ⟨(.type "dict"), none, (.dict #[de P "__module__" 1235 (vs "msgpack.fallback" 1226), de P "__qualname__" 1237 (vs "Packer" 1236), de P "__firstlineno__" 1239 (.int 508 1238), de P "__init__" 1260 (vr 783), de P "_pack" 1279 (vr 791), de P "pack" 1288 (vr 798), de P "pack_map_pairs" 1296 (vr 805), de P "pack_array_header" 1304 (vr 812), de P "pack_map_header" 1312 (vr 819), de P "pack_ext_type" 1321 (vr 826), de P "_pack_array_header" 1329 (vr 833), de P "_pack_map_header" 1337 (vr 840), de P "_pack_map_pairs" 1349 (vr 848), de P "_pack_raw_header" 1357 (vr 855), de P "_pack_bin_header" 1365 (vr 862), de P "bytes" 1372 (vr 869), de P "reset" 1379 (vr 876), de P "__static_attributes__" 1387 (vr 877)] 18), #[]⟩
def o772_0 (P : Params) : Obj := ⟨(.type "tuple"), none, (.seq #[] 0), #[]⟩
def o773_0 (P : Params) : Obj := ⟨.none, none, (.fields #[(vi 510), (vi 4), (vr 782), (vi 521), (vi 4), (vr 790), (vi 624), (vi 4), (vr 797), (vi 635), (vi 4), (vr 804), (vi 638), (vi 4), (vr 811), (vi 641), (vi 4), (vr 818), (vi 644), (vi 4), (vr 825), (vi 647), (vi 4), (vr 832), (vi 656), (vi 4), (vr 839), (vi 665), (vi 4), (vr 847), (vi 671), (vi 4), (vr 854), (vi 683), (vi 4), (vr 861), (vi 695), (vi 4), (vr 868), (vi 698), (vi 4), (vr 875)]), #[]⟩
def o774_0 (P : Params) : Obj := ⟨(.type "code"), none, (.fields #[(vs "Packer" 1230), (vs "Packer" 1231), (vs "/claim/cut.py" 1232), (vi 508), (vi 0), (vi 0), (vi 0), (vi 0), (vr 772), (.bool false), (vi 317), (vr 773), .none, .none, .none, .none, (vi 1233), (vi 508), (vs "/claim/cut.py" 1234)]), #[]⟩
def o775_0 (P : Params) : Obj := ⟨(.type "frame"), none, .plain, #[(some (vr 774)), (some (vr 3)), (some (vr 771)), none, (some (vs "msgpack.fallback" 1226)), none, (some (vr 0))]⟩
def o776_0 (P : Params) : Obj := ⟨(.type "dict"), none, (.dict #[de P "default" 1240 .none, de P "use_single_float" 1241 (.bool false), de P "autoreset" 1242 (.bool true), de P "use_bin_type" 1243 (.bool true), de P "strict_types" 1244 (.bool false), de P "unicode_errors" 1245 .none, de P "buf_size" 1246 .none] 7), #[]⟩
def o777_0 (P : Params) : Obj := ⟨(.type "tuple"), none, (.seq #[] 0), #[]⟩
def o778_0 (P : Params) : Obj := ⟨.none, none, (.fields #[]), #[]⟩
def o779_0 (P : Params) : Obj := ⟨(.type "tuple"), none, (.seq #[(vs "self" 1250), (vs "default" 1251), (vs "use_single_float" 1252), (vs "autoreset" 1253), (vs "use_bin_type" 1254), (vs "strict_types" 1255), (vs "unicode_errors" 1256), (vs "buf_size" 1257)] 0), #[]⟩
def o780_0 (P : Params) : Obj := ⟨(.type "tuple"), none, (.seq #[] 0), #[]⟩
def o781_0 (P : Params) : Obj := ⟨.none, none, (fO (mth 20 0) (sn "Packer.__init__") [] .none .none .none .none none .none .none 0 0), #[]⟩
def o782_0 (P : Params) : Obj := ⟨(.type "code"), none, (.fields #[(vs "__init__" 1247), (vs "Packer.__init__" 1248), (vs "/claim/cut.py" 1249), (vi 510), (vi 1), (vi 0), (vi 7), (vi 3), (vr 777), (.bool true), (vi 317), (vr 778), .none, (vr 779), (vr 780), (vr 781), (vi 1258), (vi 510), (vs "/claim/cut.py" 1259)]), #[]⟩
def o783_0 (P : Params) : Obj := ⟨(.type "function"), none, (fO (mth 20 0) (sn "Packer.__init__") [] .none (vr 776) .none (vs "msgpack.fallback" 1226) none (vr 782) .none 0 3), #[]⟩
def o784_0 (P : Params) : Obj := ⟨(.type "tuple"), none, (.seq #[(.int 1024 558), (.builtin "isinstance"), (vr 218)] 0), #[]⟩
def o785_0 (P : Params) : Obj := ⟨(.type "tuple"), none, (.seq #[] 0), #[]⟩
def o786_0 (P : Params) : Obj := ⟨.none, none, (.fields #[]), #[]⟩
def o787_0 (P : Params) : Obj := ⟨(.type "tuple"), none, (.seq #[(vs "self" 1264), (vs "obj" 1265), (vs "nest_limit" 1266), (vs "check" 1267), (vs "check_type_strict" 1268), (vs "default_used" 1269), (vs "list_types" 1270), (vs "dict_types" 1271), (vs "n" 1272), (vs "code" 1273), (vs "data" 1274), (vs "L" 1275), (vs "i" 1276)] 0), #[]⟩
def o788_0 (P : Params) : Obj := ⟨(.type "tuple"), none, (.seq #[] 0), #[]⟩
def o789_0 (P : Params) : Obj := ⟨.none, none, (fO (mth 20 1) (sn "Packer._pack") [] .none .none .none .none none .none .none 0 0), #[]⟩
def o790_0 (P : Params) : Obj := ⟨(.type "code"), none, (.fields #[(vs "_pack" 1261), (vs "Packer._pack" 1262), (vs "/claim/cut.py" 1263), (vi 521), (vi 5), (vi 0), (vi 0), (vi 3), (vr 785), (.bool true), (vi 317), (vr 786), .none, (vr 787), (vr 788), (vr 789), (vi 1277), (vi 521), (vs "/claim/cut.py" 1278)]), #[]⟩
def o791_0 (P : Params) : Obj := ⟨(.type "function"), none, (fO (mth 20 1) (sn "Packer._pack") [] (vr 784) .none .none (vs "msgpack.fallback" 1226) none (vr 790) .none 0 3), #[]⟩
def o792_0 (P : Params) : Obj := ⟨(.type "tuple"), none, (.seq #[] 0), #[]⟩
def o793_0 (P : Params) : Obj := ⟨.none, none, (.fields #[]), #[]⟩
def o794_0 (P : Params) : Obj := ⟨(.type "tuple"), none, (.seq #[(vs "self" 1283), (vs "obj" 1284), (vs "ret" 1285)] 0), #[]⟩
def o795_0 (P : Params) : Obj := ⟨(.type "tuple"), none, (.seq #[] 0), #[]⟩
def o796_0 (P : Params) : Obj := ⟨.none, none, (fO (mth 20 2) (sn "Packer.pack") [] .none .none .none .none none .none .none 0 0), #[]⟩
def o797_0 (P : Params) : Obj := ⟨(.type "code"), none, (.fields #[(vs "pack" 1280), (vs "Packer.pack" 1281), (vs "/claim/cut.py" 1282), (vi 624), (vi 2), (vi 0), (vi 0), (vi 3), (vr 792), (.bool true), (vi 317), (vr 793), .none, (vr 794), (vr 795), (vr 796), (vi 1286), (vi 624), (vs "/claim/cut.py" 1287)]), #[]⟩
def o798_0 (P : Params) : Obj := ⟨(.type "function"), none, (fO (mth 20 2) (sn "Packer.pack") [] .none .none .none (vs "msgpack.fallback" 1226) none (vr 797) .none 0 3), #[]⟩
def o799_0 (P : Params) : Obj := ⟨(.type "tuple"), none, (.seq #[] 0), #[]⟩
def o800_0 (P : Params) : Obj := ⟨.none, none, (.fields #[]), #[]⟩
def o801_0 (P : Params) : Obj := ⟨(.type "tuple"), none, (.seq #[(vs "self" 1292), (vs "pairs" 1293)] 0), #[]⟩
def o802_0 (P : Params) : Obj := ⟨(.type "tuple"), none, (.seq #[] 0), #[]⟩
def o803_0 (P : Params) : Obj := ⟨.none, none, (fO (mth 20 3) (sn "Packer.pack_map_pairs") [] .none .none .none .none none .none .none 0 0), #[]⟩
def o804_0 (P : Params) : Obj := ⟨(.type "code"), none, (.fields #[(vs "pack_map_pairs" 1289), (vs "Packer.pack_map_pairs" 1290), (vs "/claim/cut.py" 1291), (vi 635), (vi 2), (vi 0), (vi 0), (vi 3), (vr 799), (.bool true), (vi 317), (vr 800), .none, (vr 801), (vr 802), (vr 803), (vi 1294), (vi 635), (vs "/claim/cut.py" 1295)]), #[]⟩
def o805_0 (P : Params) : Obj := ⟨(.type "function"), none, (fO (mth 20 3) (sn "Packer.pack_map_pairs") [] .none .none .none (vs "msgpack.fallback" 1226) none (vr 804) .none 0 3), #[]⟩
def o806_0 (P : Params) : Obj := ⟨(.type "tuple"), none, (.seq #[] 0), #[]⟩
def o807_0 (P : Params) : Obj := ⟨.none, none, (.fields #[]), #[]⟩
def o808_0 (P : Params) : Obj := ⟨(.type "tuple"), none, (.seq #[(vs "self" 1300), (vs "n" 1301)] 0), #[]⟩
def o809_0 (P : Params) : Obj := ⟨(.type "tuple"), none, (.seq #[] 0), #[]⟩
def o810_0 (P : Params) : Obj := ⟨.none, none, (fO (mth 20 4) (sn "Packer.pack_array_header") [] .none .none .none .none none .none .none 0 0), #[]⟩
def o811_0 (P : Params) : Obj := ⟨(.type "code"), none, (.fields #[(vs "pack_array_header" 1297), (vs "Packer.pack_array_header" 1298), (vs "/claim/cut.py" 1299), (vi 638), (vi 2), (vi 0), (vi 0), (vi 3), (vr 806), (.bool true), (vi 317), (vr 807), .none, (vr 808), (vr 809), (vr 810), (vi 1302), (vi 638), (vs "/claim/cut.py" 1303)]), #[]⟩
def o812_0 (P : Params) : Obj := ⟨(.type "function"), none, (fO (mth 20 4) (sn "Packer.pack_array_header") [] .none .none .none (vs "msgpack.fallback" 1226) none (vr 811) .none 0 3), #[]⟩
def o813_0 (P : Params) : Obj := ⟨(.type "tuple"), none, (.seq #[] 0), #[]⟩
def o814_0 (P : Params) : Obj := ⟨.none, none, (.fields #[]), #[]⟩
def o815_0 (P : Params) : Obj := ⟨(.type "tuple"), none, (.seq #[(vs "self" 1308), (vs "n" 1309)] 0), #[]⟩
def o816_0 (P : Params) : Obj := ⟨(.type "tuple"), none, (.seq #[] 0), #[]⟩
def o817_0 (P : Params) : Obj := ⟨.none, none, (fO (mth 20 5) (sn "Packer.pack_map_header") [] .none .none .none .none none .none .none 0 0), #[]⟩
def o818_0 (P : Params) : Obj := ⟨(.type "code"), none, (.fields #[(vs "pack_map_header" 1305), (vs "Packer.pack_map_header" 1306), (vs "/claim/cut.py" 1307), (vi 641), (vi 2), (vi 0), (vi 0), (vi 3), (vr 813), (.bool true), (vi 317), (vr 814), .none, (vr 815), (vr 816), (vr 817), (vi 1310), (vi 641), (vs "/claim/cut.py" 1311)]), #[]⟩
def o819_0 (P : Params) : Obj := ⟨(.type "function"), none, (fO (mth 20 5) (sn "Packer.pack_map_header") [] .none .none .none (vs "msgpack.fallback" 1226) none (vr 818) .none 0 3), #[]⟩
def o820_0 (P : Params) : Obj := ⟨(.type "tuple"), none, (.seq #[] 0), #[]⟩
def o821_0 (P : Params) : Obj := ⟨.none, none, (.fields #[]), #[]⟩
def o822_0 (P : Params) : Obj := ⟨(.type "tuple"), none, (.seq #[(vs "self" 1316), (vs "typecode" 1317), (vs "data" 1318)] 0), #[]⟩
def o823_0 (P : Params) : Obj := ⟨(.type "tuple"), none, (.seq #[] 0), #[]⟩
def o824_0 (P : Params) : Obj := ⟨.none, none, (fO (mth 20 6) (sn "Packer.pack_ext_type") [] .none .none .none .none none .none .none 0 0), #[]⟩
def o825_0 (P : Params) : Obj := ⟨(.type "code"), none, (.fields #[(vs "pack_ext_type" 1313), (vs "Packer.pack_ext_type" 1314), (vs "/claim/cut.py" 1315), (vi 644), (vi 3), (vi 0), (vi 0), (vi 3), (vr 820), (.bool true), (vi 317), (vr 821), .none, (vr 822), (vr 823), (vr 824), (vi 1319), (vi 644), (vs "/claim/cut.py" 1320)]), #[]⟩
def o826_0 (P : Params) : Obj := ⟨(.type "function"), none, (fO (mth 20 6) (sn "Packer.pack_ext_type") [] .none .none .none (vs "msgpack.fallback" 1226) none (vr 825) .none 0 3), #[]⟩
def o827_0 (P : Params) : Obj := ⟨(.type "tuple"), none, (.seq #[] 0), #[]⟩
def o828_0 (P : Params) : Obj := ⟨.none, none, (.fields #[]), #[]⟩
def o829_0 (P : Params) : Obj := ⟨(.type "tuple"), none, (.seq #[(vs "self" 1325), (vs "n" 1326)] 0), #[]⟩
def o830_0 (P : Params) : Obj := ⟨(.type "tuple"), none, (.seq #[] 0), #[]⟩
def o831_0 (P : Params) : Obj := ⟨.none, none, (fO (mth 20 7) (sn "Packer._pack_array_header") [] .none .none .none .none none .none .none 0 0), #[]⟩
def o832_0 (P : Params) : Obj := ⟨(.type "code"), none, (.fields #[(vs "_pack_array_header" 1322), (vs "Packer._pack_array_header" 1323), (vs "/claim/cut.py" 1324), (vi 647), (vi 2), (vi 0), (vi 0), (vi 3), (vr 827), (.bool true), (vi 317), (vr 828), .none, (vr 829), (vr 830), (vr 831), (vi 1327), (vi 647), (vs "/claim/cut.py" 1328)]), #[]⟩
def o833_0 (P : Params) : Obj := ⟨(.type "function"), none, (fO (mth 20 7) (sn "Packer._pack_array_header") [] .none .none .none (vs "msgpack.fallback" 1226) none (vr 832) .none 0 3), #[]⟩
def o834_0 (P : Params) : Obj := ⟨(.type "tuple"), none, (.seq #[] 0), #[]⟩
def o835_0 (P : Params) : Obj := ⟨.none, none, (.fields #[]), #[]⟩
def o836_0 (P : Params) : Obj := ⟨(.type "tuple"), none, (.seq #[(vs "self" 1333), (vs "n" 1334)] 0), #[]⟩
def o837_0 (P : Params) : Obj := ⟨(.type "tuple"), none, (.seq #[] 0), #[]⟩
def o838_0 (P : Params) : Obj := ⟨.none, none, (fO (mth 20 8) (sn "Packer._pack_map_header") [] .none .none .none .none none .none .none 0 0), #[]⟩
def o839_0 (P : Params) : Obj := ⟨(.type "code"), none, (.fields #[(vs "_pack_map_header" 1330), (vs "Packer._pack_map_header" 1331), (vs "/claim/cut.py" 1332), (vi 656), (vi 2), (vi 0), (vi 0), (vi 3), (vr 834), (.bool true), (vi 317), (vr 835), .none, (vr 836), (vr 837), (vr 838), (vi 1335), (vi 656), (vs "/claim/cut.py" 1336)]), #[]⟩
def o840_0 (P : Params) : Obj := ⟨(.type "function"), none, (fO (mth 20 8) (sn "Packer._pack_map_header") [] .none .none .none (vs "msgpack.fallback" 1226) none (vr 839) .none 0 3), #[]⟩
def o841_0 (P : Params) : Obj := ⟨(.type "tuple"), none, (.seq #[(.int 1024 558)] 0), #[]⟩
def o842_0 (P : Params) : Obj := ⟨(.type "tuple"), none, (.seq #[] 0), #[]⟩
def o843_0 (P : Params) : Obj := ⟨.none, none, (.fields #[]), #[]⟩
def o844_0 (P : Params) : Obj := ⟨(.type "tuple"), none, (.seq #[(vs "self" 1341), (vs "n" 1342), (vs "pairs" 1343), (vs "nest_limit" 1344), (vs "k" 1345), (vs "v" 1346)] 0), #[]⟩
def o845_0 (P : Params) : Obj := ⟨(.type "tuple"), none, (.seq #[] 0), #[]⟩
def o846_0 (P : Params) : Obj := ⟨.none, none, (fO (mth 20 9) (sn "Packer._pack_map_pairs") [] .none .none .none .none none .none .none 0 0), #[]⟩
def o847_0 (P : Params) : Obj := ⟨(.type "code"), none, (.fields #[(vs "_pack_map_pairs" 1338), (vs "Packer._pack_map_pairs" 1339), (vs "/claim/cut.py" 1340), (vi 665), (vi 4), (vi 0), (vi 0), (vi 3), (vr 842), (.bool true), (vi 317), (vr 843), .none, (vr 844), (vr 845), (vr 846), (vi 1347), (vi 665), (vs "/claim/cut.py" 1348)]), #[]⟩
def o848_0 (P : Params) : Obj := ⟨(.type "function"), none, (fO (mth 20 9) (sn "Packer._pack_map_pairs") [] (vr 841) .none .none (vs "msgpack.fallback" 1226) none (vr 847) .none 0 3), #[]⟩
def o849_0 (P : Params) : Obj := ⟨(.type "tuple"), none, (.seq #[] 0), #[]⟩
def o850_0 (P : Params) : Obj := ⟨.none, none, (.fields #[]), #[]⟩
def o851_0 (P : Params) : Obj := ⟨(.type "tuple"), none, (.seq #[(vs "self" 1353), (vs "n" 1354)] 0), #[]⟩
def o852_0 (P : Params) : Obj := ⟨(.type "tuple"), none, (.seq #[] 0), #[]⟩
def o853_0 (P : Params) : Obj := ⟨.none, none, (fO (mth 20 10) (sn "Packer._pack_raw_header") [] .none .none .none .none none .none .none 0 0), #[]⟩
def o854_0 (P : Params) : Obj := ⟨(.type "code"), none, (.fields #[(vs "_pack_raw_header" 1350), (vs "Packer._pack_raw_header" 1351), (vs "/claim/cut.py" 1352), (vi 671), (vi 2), (vi 0), (vi 0), (vi 3), (vr 849), (.bool true), (vi 317), (vr 850), .none, (vr 851), (vr 852), (vr 853), (vi 1355), (vi 671), (vs "/claim/cut.py" 1356)]), #[]⟩
def o855_0 (P : Params) : Obj := ⟨(.type "function"), none, (fO (mth 20 10) (sn "Packer._pack_raw_header") [] .none .none .none (vs "msgpack.fallback" 1226) none (vr 854) .none 0 3), #[]⟩
def o856_0 (P : Params) : Obj := ⟨(.type "tuple"), none, (.seq #[] 0), #[]⟩
def o857_0 (P : Params) : Obj := ⟨.none, none, (.fields #[]), #[]⟩
def o858_0 (P : Params) : Obj := ⟨(.type "tuple"), none, (.seq #[(vs "self" 1361), (vs "n" 1362)] 0), #[]⟩
def o859_0 (P : Params) : Obj := ⟨(.type "tuple"), none, (.seq #[] 0), #[]⟩
def o860_0 (P : Params) : Obj := ⟨.none, none, (fO (mth 20 11) (sn "Packer._pack_bin_header") [] .none .none .none .none none .none .none 0 0), #[]⟩
def o861_0 (P : Params) : Obj := ⟨(.type "code"), none, (.fields #[(vs "_pack_bin_header" 1358), (vs "Packer._pack_bin_header" 1359), (vs "/claim/cut.py" 1360), (vi 683), (vi 2), (vi 0), (vi 0), (vi 3), (vr 856), (.bool true), (vi 317), (vr 857), .none, (vr 858), (vr 859), (vr 860), (vi 1363), (vi 683), (vs "/claim/cut.py" 1364)]), #[]⟩
def o862_0 (P : Params) : Obj := ⟨(.type "function"), none, (fO (mth 20 11) (sn "Packer._pack_bin_header") [] .none .none .none (vs "msgpack.fallback" 1226) none (vr 861) .none 0 3), #[]⟩
def o863_0 (P : Params) : Obj := ⟨(.type "tuple"), none, (.seq #[] 0), #[]⟩
def o864_0 (P : Params) : Obj := ⟨.none, none, (.fields #[]), #[]⟩
def o865_0 (P : Params) : Obj := ⟨(.type "tuple"), none, (.seq #[(vs "self" 1369)] 0), #[]⟩
def o866_0 (P : Params) : Obj := ⟨(.type "tuple"), none, (.seq #[] 0), #[]⟩
def o867_0 (P : Params) : Obj := ⟨.none, none, (fO (mth 20 12) (sn "Packer.bytes") [] .none .none .none .none none .none .none 0 0), #[]⟩
def o868_0 (P : Params) : Obj := ⟨(.type "code"), none, (.fields #[(vs "bytes" 1366), (vs "Packer.bytes" 1367), (vs "/claim/cut.py" 1368), (vi 695), (vi 1), (vi 0), (vi 0), (vi 3), (vr 863), (.bool true), (vi 317), (vr 864), .none, (vr 865), (vr 866), (vr 867), (vi 1370), (vi 695), (vs "/claim/cut.py" 1371)]), #[]⟩
def o869_0 (P : Params) : Obj := ⟨(.type "function"), none, (fO (mth 20 12) (sn "Packer.bytes") [] .none .none .none (vs "msgpack.fallback" 1226) none (vr 868) .none 0 3), #[]⟩
def o870_0 (P : Params) : Obj := ⟨(.type "tuple"), none, (.seq #[] 0), #[]⟩
def o871_0 (P : Params) : Obj := ⟨.none, none, (.fields #[]), #[]⟩
def o872_0 (P : Params) : Obj := ⟨(.type "tuple"), none, (.seq #[(vs "self" 1376)] 0), #[]⟩
def o873_0 (P : Params) : Obj := ⟨(.type "tuple"), none, (.seq #[] 0), #[]⟩
def o874_0 (P : Params) : Obj := ⟨.none, none, (fO (mth 20 13) (sn "Packer.reset") [] .none .none .none .none none .none .none 0 0), #[]⟩
def o875_0 (P : Params) : Obj := ⟨(.type "code"), none, (.fields #[(vs "reset" 1373), (vs "Packer.reset" 1374), (vs "/claim/cut.py" 1375), (vi 698), (vi 1), (vi 0), (vi 0), (vi 3), (vr 870), (.bool true), (vi 317), (vr 871), .none, (vr 872), (vr 873), (vr 874), (vi 1377), (vi 698), (vs "/claim/cut.py" 1378)]), #[]⟩
def o876_0 (P : Params) : Obj := ⟨(.type "function"), none, (fO (mth 20 13) (sn "Packer.reset") [] .none .none .none (vs "msgpack.fallback" 1226) none (vr 875) .none 0 3), #[]⟩
def o877_0 (P : Params) : Obj := ⟨(.type "tuple"), none, (.seq #[(vs "_autoreset" 1380), (vs "_buffer" 1381), (vs "_default" 1382), (vs "_strict_types" 1383), (vs "_unicode_errors" 1384), (vs "_use_bin_type" 1385), (vs "_use_float" 1386)] 0), #[]⟩
def o878_0 (P : Params) : Obj := ⟨(.type "dict"), none, (.dict #[de P "__module__" 1235 (vs "msgpack.fallback" 1226), de P "__firstlineno__" 1239 (.int 508 1238), de P "__init__" 1260 (vr 783), de P "_pack" 1279 (vr 791), de P "pack" 1288 (vr 798), de P "pack_map_pairs" 1296 (vr 805), de P "pack_array_header" 1304 (vr 812), de P "pack_map_header" 1312 (vr 819), de P "pack_ext_type" 1321 (vr 826), de P "_pack_array_header" 1329 (vr 833), de P "_pack_map_header" 1337 (vr 840), de P "_pack_map_pairs" 1349 (vr 848), de P "_pack_raw_header" 1357 (vr 855), de P "_pack_bin_header" 1365 (vr 862), de P "bytes" 1372 (vr 869), de P "reset" 1379 (vr 876), de P "__static_attributes__" 1387 (vr 877), de P "__dict__" 1389 (vr 880), de P "__weakref__" 1391 (vr 881), de P "__doc__" 1392 .none] 4), #[]⟩
def o879_0 (P : Params) : Obj := ⟨(.type "type"), none, (.cls { name := sn "Packer", bases := [(.type "object")], mro := [(vr 879), (.type "object")], ns := 878, qualname := sn "Packer", hasDict := true, slotNames := [], subclasses := [], abstract := false, collection := none, hasDel := false }), #[none, none, (some (vs "Packer" 1228)), (some (vs "Packer" 1236)), (some (.builtin "object.__new__")), (some (.bool true))]⟩
def o880_0 (P : Params) : Obj := ⟨(.type "getset_descriptor"), none, (.fields #[(vs "__dict__" 1388), (vr 879), (.builtin "function.__dict__"), (.builtin "function.__dict__#set")]), #[]⟩
def o881_0 (P : Params) : Obj := ⟨(.type "getset_descriptor"), none, (.fields #[(vs "__weakref__" 1390), (vr 879), (.builtin "ExceptionGroup.__weakref__"), .none]), #[]⟩
def o882_0 (P : Params) : Obj := ⟨(.type "super"), none, (.fields #[(vr 879), (vr 879), (vr 879)]), #[]⟩
def o883_0 (P : Params) : Obj := ⟨(.type "builtin_function_or_method"), none, (.fields #[(.builtin "object.__init_subclass__"), (vr 879)]), #[]⟩
def o884_0 (P : Params) : Obj := ⟨(.type "tuple"), none, (.seq #[(.type "Exception")] 0), #[]⟩
def o885_0 (P : Params) : Obj := ⟨(.type "builtin_function_or_method"), none, (.fields #[(.builtin "type.__prepare__"), (.type "type")]), #[]⟩
def o886_0 (P : Params) : Obj := ⟨(.type "dict"), none, (.dict #[de P "__module__" 1404 (vs "rlp.exceptions" 1395), de P "__qualname__" 1406 (vs "RLPException" 1405), de P "__firstlineno__" 1408 (.int 701 1407), de P "__static_attributes__" 1409 (vr 891)] 4), #[]⟩
def o887_0 (P : Params) : Obj := ⟨(.type "tuple"), none, (.seq #[] 0), #[]⟩
def o888_0 (P : Params) : Obj := ⟨.none, none, (.fields #[]), #[]⟩
def o889_0 (P : Params) : Obj := ⟨(.type "code"), none, (.fields #[(vs "RLPException" 1399), (vs "RLPException" 1400), (vs "/claim/cut.py" 1401), (vi 701), (vi 0), (vi 0), (vi 0), (vi 0), (vr 887), (.bool false), (vi 317), (vr 888), .none, .none, .none, .none, (vi 1402), (vi 701), (vs "/claim/cut.py" 1403)]), #[]⟩
def o890_0 (P : Params) : Obj := ⟨(.type "frame"), none, .plain, #[(some (vr 889)), (some (vr 3)), (some (vr 886)), none, (some (vs "rlp.exceptions" 1395)), none, (some (vr 0))]⟩
def o891_0 (P : Params) : Obj := ⟨(.type "tuple"), none, (.seq #[] 0), #[]⟩
def o892_0 (P : Params) : Obj := ⟨(.type "dict"), none, (.dict #[de P "__module__" 1404 (vs "rlp.exceptions" 1395), de P "__firstlineno__" 1408 (.int 701 1407), de P "__static_attributes__" 1409 (vr 891), de P "__weakref__" 1411 (vr 894), de P "__doc__" 1412 .none] 3), #[]⟩
def o893_0 (P : Params) : Obj := ⟨(.type "type"), none, (.cls { name := sn "RLPException", bases := [(.type "Exception")], mro := [(vr 893), (.type "Exception"), (.type "BaseException"), (.type "object")], ns := 892, qualname := sn "RLPException", hasDict := true, slotNames := [], subclasses := [(vr 915), (vr 936), (vr 979)], abstract := false, collection := none, hasDel := false }), #[(some (vr 884)), none, (some (vs "RLPException" 1397)), (some (vs "RLPException" 1405)), (some (.builtin "Exception.__new__")), (some (.bool true))]⟩
def o894_0 (P : Params) : Obj := ⟨(.type "getset_descriptor"), none, (.fields #[(vs "__weakref__" 1410), (vr 893), (.builtin "ExceptionGroup.__weakref__"), .none]), #[]⟩
def o895_0 (P : Params) : Obj := ⟨(.type "super"), none, (.fields #[(vr 893), (vr 893), (vr 893)]), #[]⟩
def o896_0 (P : Params) : Obj := ⟨(.type "builtin_function_or_method"), none, (.fields #[(.builtin "object.__init_subclass__"), (vr 893)]), #[]⟩
def o897_0 (P : Params) : Obj := ⟨(.type "tuple"), none, (.seq #[(vr 893)] 0), #[]⟩
def o898_0 (P : Params) : Obj := ⟨(.type "builtin_function_or_method"), none, (.fields #[(.builtin "type.__prepare__"), (.type "type")]), #[]⟩
def o899_0 (P : Params) : Obj := ⟨(.type "dict"), none, (.dict #[de P "__module__" 1424 (vs "rlp.exceptions" 1395), de P "__qualname__" 1426 (vs "EncodingError" 1425), de P "__firstlineno__" 1428 (.int 703 1427), de P "__init__" 1438 (vr 912), de P "__static_attributes__" 1440 (vr 913), de P "__classcell__" 1441 (vr 900)] 6), #[]⟩
def o900_0 (P : Params) : Obj := ⟨(.type "cell"), none, (.cell (some (vr 915))), #[]⟩
def o901_0 (P : Params) : Obj := ⟨(.type "tuple"), none, (.seq #[] 0), #[]⟩
def o902_0 (P : Params) : Obj := ⟨.none, none, (.fields #[(vi 705), (vi 4), (vr 911)]), #[]⟩
def o903_0 (P : Params) : Obj := ⟨(.type "code"), none, (.fields #[(vs "EncodingError" 1419), (vs "EncodingError" 1420), (vs "/claim/cut.py" 1421), (vi 703), (vi 0), (vi 0), (vi 0), (vi 0), (vr 901), (.bool false), (vi 317), (vr 902), .none, .none, .none, .none, (vi 1422), (vi 703), (vs "/claim/cut.py" 1423)]), #[]⟩
def o904_0 (P : Params) : Obj := ⟨(.type "frame"), none, .plain, #[(some (vr 903)), (some (vr 3)), (some (vr 899)), none, (some (vs "rlp.exceptions" 1395)), none, (some (vr 0))]⟩
def o905_0 (P : Params) : Obj := ⟨(.type "tuple"), none, (.seq #[(vr 900)] 0), #[]⟩
def o906_0 (P : Params) : Obj := ⟨(.type "tuple"), none, (.seq #[(vs "__class__" 1432)] 0), #[]⟩
def o907_0 (P : Params) : Obj := ⟨.none, none, (.fields #[]), #[]⟩
def o908_0 (P : Params) : Obj := ⟨(.type "tuple"), none, (.seq #[(vs "self" 1433), (vs "message" 1434), (vs "obj" 1435)] 0), #[]⟩
def o909_0 (P : Params) : Obj := ⟨(.type "tuple"), none, (.seq #[] 0), #[]⟩
def o910_0 (P : Params) : Obj := ⟨.none, none, (fO (mth 23 0) (sn "EncodingError.__init__") [] .none .none .none .none none .none .none 0 0), #[]⟩
def o911_0 (P : Params) : Obj := ⟨(.type "code"), none, (.fields #[(vs "__init__" 1429), (vs "EncodingError.__init__" 1430), (vs "/claim/cut.py" 1431), (vi 705), (vi 3), (vi 0), (vi 0), (vi 3), (vr 906), (.bool true), (vi 317), (vr 907), .none, (vr 908), (vr 909), (vr 910), (vi 1436), (vi 705), (vs "/claim/cut.py" 1437)]), #[]⟩
def o912_0 (P : Params) : Obj := ⟨(.type "function"), none, (fO (mth 23 0) (sn "EncodingError.__init__") [(sn "__class__", 900)] .none .none .none (vs "rlp.exceptions" 1395) none (vr 911) (vr 905) 0 3), #[]⟩
def o913_0 (P : Params) : Obj := ⟨(.type "tuple"), none, (.seq #[(vs "obj" 1439)] 0), #[]⟩
def o914_0 (P : Params) : Obj := ⟨(.type "dict"), none, (.dict #[de P "__module__" 1424 (vs "rlp.exceptions" 1395), de P "__firstlineno__" 1428 (.int 703 1427), de P "__init__" 1438 (vr 912), de P "__static_attributes__" 1440 (vr 913), de P "__doc__" 1442 .none] 3), #[]⟩
def o915_0 (P : Params) : Obj := ⟨(.type "type"), none, (.cls { name := sn "EncodingError", bases := [(vr 893)], mro := [(vr 915), (vr 893), (.type "Exception"), (.type "BaseException"), (.type "object")], ns := 914, qualname := sn "EncodingError", hasDict := true, slotNames := [], subclasses := [], abstract := false, collection := none, hasDel := false }), #[(some (vr 897)), none, (some (vs "EncodingError" 1417)), (some (vs "EncodingError" 1425)), (some (.builtin "Exception.__new__")), (some (.bool true))]⟩
def o916_0 (P : Params) : Obj := ⟨(.type "super"), none, (.fields #[(vr 915), (vr 915), (vr 915)]), #[]⟩
def o917_0 (P : Params) : Obj := ⟨(.type "builtin_function_or_method"), none, (.fields #[(.builtin "object.__init_subclass__"), (vr 915)]), #[]⟩
def o918_0 (P : Params) : Obj := ⟨(.type "tuple"), none, (.seq #[(vr 893)] 0), #[]⟩
def o919_0 (P : Params) : Obj := ⟨(.type "builtin_function_or_method"), none, (.fields #[(.builtin "type.__prepare__"), (.type "type")]), #[]⟩
def o920_0 (P : Params) : Obj := ⟨(.type "dict"), none, (.dict #[de P "__module__" 1452 (vs "rlp.exceptions" 1395), de P "__qualname__" 1454 (vs "SerializationError" 1453), de P "__firstlineno__" 1456 (.int 708 1455), de P "__init__" 1466 (vr 933), de P "__static_attributes__" 1468 (vr 934), de P "__classcell__" 1469 (vr 921)] 6), #[]⟩
def o921_0 (P : Params) : Obj := ⟨(.type "cell"), none, (.cell (some (vr 936))), #[]⟩
def o922_0 (P : Params) : Obj := ⟨(.type "tuple"), none, (.seq #[] 0), #[]⟩
def o923_0 (P : Params) : Obj := ⟨.none, none, (.fields #[(vi 710), (vi 4), (vr 932)]), #[]⟩
def o924_0 (P : Params) : Obj := ⟨(.type "code"), none, (.fields #[(vs "SerializationError" 1447), (vs "SerializationError" 1448), (vs "/claim/cut.py" 1449), (vi 708), (vi 0), (vi 0), (vi 0), (vi 0), (vr 922), (.bool false), (vi 317), (vr 923), .none, .none, .none, .none, (vi 1450), (vi 708), (vs "/claim/cut.py" 1451)]), #[]⟩
def o925_0 (P : Params) : Obj := ⟨(.type "frame"), none, .plain, #[(some (vr 924)), (some (vr 3)), (some (vr 920)), none, (some (vs "rlp.exceptions" 1395)), none, (some (vr 0))]⟩
def o926_0 (P : Params) : Obj := ⟨(.type "tuple"), none, (.seq #[(vr 921)] 0), #[]⟩
def o927_0 (P : Params) : Obj := ⟨(.type "tuple"), none, (.seq #[(vs "__class__" 1460)] 0), #[]⟩
def o928_0 (P : Params) : Obj := ⟨.none, none, (.fields #[]), #[]⟩
def o929_0 (P : Params) : Obj := ⟨(.type "tuple"), none, (.seq #[(vs "self" 1461), (vs "message" 1462), (vs "obj" 1463)] 0), #[]⟩
def o930_0 (P : Params) : Obj := ⟨(.type "tuple"), none, (.seq #[] 0), #[]⟩
def o931_0 (P : Params) : Obj := ⟨.none, none, (fO (mth 24 0) (sn "SerializationError.__init__") [] .none .none .none .none none .none .none 0 0), #[]⟩
def o932_0 (P : Params) : Obj := ⟨(.type "code"), none, (.fields #[(vs "__init__" 1457), (vs "SerializationError.__init__" 1458), (vs "/claim/cut.py" 1459), (vi 710), (vi 3), (vi 0), (vi 0), (vi 3), (vr 927), (.bool true), (vi 317), (vr 928), .none, (vr 929), (vr 930), (vr 931), (vi 1464), (vi 710), (vs "/claim/cut.py" 1465)]), #[]⟩
def o933_0 (P : Params) : Obj := ⟨(.type "function"), none, (fO (mth 24 0) (sn "SerializationError.__init__") [(sn "__class__", 921)] .none .none .none (vs "rlp.exceptions" 1395) none (vr 932) (vr 926) 0 3), #[]⟩
def o934_0 (P : Params) : Obj := ⟨(.type "tuple"), none, (.seq #[(vs "obj" 1467)] 0), #[]⟩
def o935_0 (P : Params) : Obj := ⟨(.type "dict"), none, (.dict #[de P "__module__" 1452 (vs "rlp.exceptions" 1395), de P "__firstlineno__" 1456 (.int 708 1455), de P "__init__" 1466 (vr 933), de P "__static_attributes__" 1468 (vr 934), de P "__doc__" 1470 .none] 3), #[]⟩
def o936_0 (P : Params) : Obj := ⟨(.type "type"), none, (.cls { name := sn "SerializationError", bases := [(vr 893)], mro := [(vr 936), (vr 893), (.type "Exception"), (.type "BaseException"), (.type "object")], ns := 935, qualname := sn "SerializationError", hasDict := true, slotNames := [], subclasses := [(vr 958)], abstract := false, collection := none, hasDel := false }), #[(some (vr 918)), none, (some (vs "SerializationError" 1445)), (some (vs "SerializationError" 1453)), (some (.builtin "Exception.__new__")), (some (.bool true))]⟩
def o937_0 (P : Params) : Obj := ⟨(.type "super"), none, (.fields #[(vr 936), (vr 936), (vr 936)]), #[]⟩
def o938_0 (P : Params) : Obj := ⟨(.type "builtin_function_or_method"), none, (.fields #[(.builtin "object.__init_subclass__"), (vr 936)]), #[]⟩
def o939_0 (P : Params) : Obj := ⟨(.type "tuple"), none, (.seq #[(vr 936)] 0), #[]⟩
def o940_0 (P : Params) : Obj := ⟨(.type "builtin_function_or_method"), none, (.fields #[(.builtin "type.__prepare__"), (.type "type")]), #[]⟩
def o941_0 (P : Params) : Obj := ⟨(.type "dict"), none, (.dict #[de P "__module__" 1480 (vs "rlp.exceptions" 1395), de P "__qualname__" 1482 (vs "ListSerializationError" 1481), de P "__firstlineno__" 1484 (.int 713 1483), de P "__init__" 1496 (vr 955), de P "__static_attributes__" 1499 (vr 956), de P "__classcell__" 1500 (vr 942)] 6), #[]⟩
def o942_0 (P : Params) : Obj := ⟨(.type "cell"), none, (.cell (some (vr 958))), #[]⟩
def o943_0 (P : Params) : Obj := ⟨(.type "tuple"), none, (.seq #[] 0), #[]⟩
def o944_0 (P : Params) : Obj := ⟨.none, none, (.fields #[(vi 715), (vi 4), (vr 954)]), #[]⟩
def o945_0 (P : Params) : Obj := ⟨(.type "code"), none, (.fields #[(vs "ListSerializationError" 1475), (vs "ListSerializationError" 1476), (vs "/claim/cut.py" 1477), (vi 713), (vi 0), (vi 0), (vi 0), (vi 0), (vr 943), (.bool false), (vi 317), (vr 944), .none, .none, .none, .none, (vi 1478), (vi 713), (vs "/claim/cut.py" 1479)]), #[]⟩
def o946_0 (P : Params) : Obj := ⟨(.type "frame"), none, .plain, #[(some (vr 945)), (some (vr 3)), (some (vr 941)), none, (some (vs "rlp.exceptions" 1395)), none, (some (vr 0))]⟩
def o947_0 (P : Params) : Obj := ⟨(.type "tuple"), none, (.seq #[.none, .none, .none, .none] 0), #[]⟩
def o948_0 (P : Params) : Obj := ⟨(.type "tuple"), none, (.seq #[(vr 942)] 0), #[]⟩
def o949_0 (P : Params) : Obj := ⟨(.type "tuple"), none, (.seq #[(vs "__class__" 1488)] 0), #[]⟩
def o950_0 (P : Params) : Obj := ⟨.none, none, (.fields #[]), #[]⟩
def o951_0 (P : Params) : Obj := ⟨(.type "tuple"), none, (.seq #[(vs "self" 1489), (vs "message" 1490), (vs "obj" 1491), (vs "element_exception" 1492), (vs "index" 1493)] 0), #[]⟩
def o952_0 (P : Params) : Obj := ⟨(.type "tuple"), none, (.seq #[] 0), #[]⟩
def o953_0 (P : Params) : Obj := ⟨.none, none, (fO (mth 25 0) (sn "ListSerializationError.__init__") [] .none .none .none .none none .none .none 0 0), #[]⟩
def o954_0 (P : Params) : Obj := ⟨(.type "code"), none, (.fields #[(vs "__init__" 1485), (vs "ListSerializationError.__init__" 1486), (vs "/claim/cut.py" 1487), (vi 715), (vi 5), (vi 0), (vi 0), (vi 3), (vr 949), (.bool true), (vi 317), (vr 950), .none, (vr 951), (vr 952), (vr 953), (vi 1494), (vi 715), (vs "/claim/cut.py" 1495)]), #[]⟩
def o955_0 (P : Params) : Obj := ⟨(.type "function"), none, (fO (mth 25 0) (sn "ListSerializationError.__init__") [(sn "__class__", 942)] (vr 947) .none .none (vs "rlp.exceptions" 1395) none (vr 954) (vr 948) 0 3), #[]⟩
def o956_0 (P : Params) : Obj := ⟨(.type "tuple"), none, (.seq #[(vs "element_exception" 1497), (vs "index" 1498)] 0), #[]⟩
def o957_0 (P : Params) : Obj := ⟨(.type "dict"), none, (.dict #[de P "__module__" 1480 (vs "rlp.exceptions" 1395), de P "__firstlineno__" 1484 (.int 713 1483), de P "__init__" 1496 (vr 955), de P "__static_attributes__" 1499 (vr 956), de P "__doc__" 1501 .none] 3), #[]⟩
def o958_0 (P : Params) : Obj := ⟨(.type "type"), none, (.cls { name := sn "ListSerializationError", bases := [(vr 936)], mro := [(vr 958), (vr 936), (vr 893), (.type "Exception"), (.type "BaseException"), (.type "object")], ns := 957, qualname := sn "ListSerializationError", hasDict := true, slotNames := [], subclasses := [], abstract := false, collection := none, hasDel := false }), #[(some (vr 939)), none, (some (vs "ListSerializationError" 1473)), (some (vs "ListSerializationError" 1481)), (some (.builtin "Exception.__new__")), (some (.bool true))]⟩
def o959_0 (P : Params) : Obj := ⟨(.type "super"), none, (.fields #[(vr 958), (vr 958), (vr 958)]), #[]⟩
def o960_0 (P : Params) : Obj := ⟨(.type "builtin_function_or_method"), none, (.fields #[(.builtin "object.__init_subclass__"), (vr 958)]), #[]⟩
def o961_0 (P : Params) : Obj := ⟨(.type "tuple"), none, (.seq #[(vr 893)] 0), #[]⟩
def o962_0 (P : Params) : Obj := ⟨(.type "builtin_function_or_method"), none, (.fields #[(.builtin "type.__prepare__"), (.type "type")]), #[]⟩
def o963_0 (P : Params) : Obj := ⟨(.type "dict"), none, (.dict #[de P "__module__" 1511 (vs "rlp.exceptions" 1395), de P "__qualname__" 1513 (vs "DeserializationError" 1512), de P "__firstlineno__" 1515 (.int 723 1514), de P "__init__" 1525 (vr 976), de P "__static_attributes__" 1527 (vr 977), de P "__classcell__" 1528 (vr 964)] 6), #[]⟩
def o964_0 (P : Params) : Obj := ⟨(.type "cell"), none, (.cell (some (vr 979))), #[]⟩
def o965_0 (P : Params) : Obj := ⟨(.type "tuple"), none, (.seq #[] 0), #[]⟩
def o966_0 (P : Params) : Obj := ⟨.none, none, (.fields #[(vi 725), (vi 4), (vr 975)]), #[]⟩
def o967_0 (P : Params) : Obj := ⟨(.type "code"), none, (.fields #[(vs "DeserializationError" 1506), (vs "DeserializationError" 1507), (vs "/claim/cut.py" 1508), (vi 723), (vi 0), (vi 0), (vi 0), (vi 0), (vr 965), (.bool false), (vi 317), (vr 966), .none, .none, .none, .none, (vi 1509), (vi 723), (vs "/claim/cut.py" 1510)]), #[]⟩
def o968_0 (P : Params) : Obj := ⟨(.type "frame"), none, .plain, #[(some (vr 967)), (some (vr 3)), (some (vr 963)), none, (some (vs "rlp.exceptions" 1395)), none, (some (vr 0))]⟩
def o969_0 (P : Params) : Obj := ⟨(.type "tuple"), none, (.seq #[(vr 964)] 0), #[]⟩
def o970_0 (P : Params) : Obj := ⟨(.type "tuple"), none, (.seq #[(vs "__class__" 1519)] 0), #[]⟩
def o971_0 (P : Params) : Obj := ⟨.none, none, (.fields #[]), #[]⟩
def o972_0 (P : Params) : Obj := ⟨(.type "tuple"), none, (.seq #[(vs "self" 1520), (vs "message" 1521), (vs "serial" 1522)] 0), #[]⟩
def o973_0 (P : Params) : Obj := ⟨(.type "tuple"), none, (.seq #[] 0), #[]⟩
def o974_0 (P : Params) : Obj := ⟨.none, none, (fO (mth 26 0) (sn "DeserializationError.__init__") [] .none .none .none .none none .none .none 0 0), #[]⟩
def o975_0 (P : Params) : Obj := ⟨(.type "code"), none, (.fields #[(vs "__init__" 1516), (vs "DeserializationError.__init__" 1517), (vs "/claim/cut.py" 1518), (vi 725), (vi 3), (vi 0), (vi 0), (vi 3), (vr 970), (.bool true), (vi 317), (vr 971), .none, (vr 972), (vr 973), (vr 974), (vi 1523), (vi 725), (vs "/claim/cut.py" 1524)]), #[]⟩
def o976_0 (P : Params) : Obj := ⟨(.type "function"), none, (fO (mth 26 0) (sn "DeserializationError.__init__") [(sn "__class__", 964)] .none .none .none (vs "rlp.exceptions" 1395) none (vr 975) (vr 969) 0 3), #[]⟩
def o977_0 (P : Params) : Obj := ⟨(.type "tuple"), none, (.seq #[(vs "serial" 1526)] 0), #[]⟩
def o978_0 (P : Params) : Obj := ⟨(.type "dict"), none, (.dict #[de P "__module__" 1511 (vs "rlp.exceptions" 1395), de P "__firstlineno__" 1515 (.int 723 1514), de P "__init__" 1525 (vr 976), de P "__static_attributes__" 1527 (vr 977), de P "__doc__" 1529 .none] 3), #[]⟩
def o979_0 (P : Params) : Obj := ⟨(.type "type"), none, (.cls { name := sn "DeserializationError", bases := [(vr 893)], mro := [(vr 979), (vr 893), (.type "Exception"), (.type "BaseException"), (.type "object")], ns := 978, qualname := sn "DeserializationError", hasDict := true, slotNames := [], subclasses := [(vr 1001)], abstract := false, collection := none, hasDel := false }), #[(some (vr 961)), none, (some (vs "DeserializationError" 1504)), (some (vs "DeserializationError" 1512)), (some (.builtin "Exception.__new__")), (some (.bool true))]⟩
def o980_0 (P : Params) : Obj := ⟨(.type "super"), none, (.fields #[(vr 979), (vr 979), (vr 979)]), #[]⟩
def o981_0 (P : Params) : Obj := ⟨(.type "builtin_function_or_method"), none, (.fields #[(.builtin "object.__init_subclass__"), (vr 979)]), #[]⟩
def o982_0 (P : Params) : Obj := ⟨(.type "tuple"), none, (.seq #[(vr 979)] 0), #[]⟩
def o983_0 (P : Params) : Obj := ⟨(.type "builtin_function_or_method"), none, (.fields #[(.builtin "type.__prepare__"), (.type "type")]), #[]⟩
def o984_0 (P : Params) : Obj := ⟨(.type "dict"), none, (.dict #[de P "__module__" 1539 (vs "rlp.exceptions" 1395), de P "__qualname__" 1541 (vs "ListDeserializationError" 1540), de P "__firstlineno__" 1543 (.int 728 1542), de P "__init__" 1555 (vr 998), de P "__static_attributes__" 1558 (vr 999), de P "__classcell__" 1559 (vr 985)] 6), #[]⟩
def o985_0 (P : Params) : Obj := ⟨(.type "cell"), none, (.cell (some (vr 1001))), #[]⟩
def o986_0 (P : Params) : Obj := ⟨(.type "tuple"), none, (.seq #[] 0), #[]⟩
def o987_0 (P : Params) : Obj := ⟨.none, none, (.fields #[(vi 730), (vi 4), (vr 997)]), #[]⟩
def o988_0 (P : Params) : Obj := ⟨(.type "code"), none, (.fields #[(vs "ListDeserializationError" 1534), (vs "ListDeserializationError" 1535), (vs "/claim/cut.py" 1536), (vi 728), (vi 0), (vi 0), (vi 0), (vi 0), (vr 986), (.bool false), (vi 317), (vr 987), .none, .none, .none, .none, (vi 1537), (vi 728), (vs "/claim/cut.py" 1538)]), #[]⟩
def o989_0 (P : Params) : Obj := ⟨(.type "frame"), none, .plain, #[(some (vr 988)), (some (vr 3)), (some (vr 984)), none, (some (vs "rlp.exceptions" 1395)), none, (some (vr 0))]⟩
def o990_0 (P : Params) : Obj := ⟨(.type "tuple"), none, (.seq #[.none, .none, .none, .none] 0), #[]⟩
def o991_0 (P : Params) : Obj := ⟨(.type "tuple"), none, (.seq #[(vr 985)] 0), #[]⟩
def o992_0 (P : Params) : Obj := ⟨(.type "tuple"), none, (.seq #[(vs "__class__" 1547)] 0), #[]⟩
def o993_0 (P : Params) : Obj := ⟨.none, none, (.fields #[]), #[]⟩
def o994_0 (P : Params) : Obj := ⟨(.type "tuple"), none, (.seq #[(vs "self" 1548), (vs "message" 1549), (vs "serial" 1550), (vs "element_exception" 1551), (vs "index" 1552)] 0), #[]⟩
def o995_0 (P : Params) : Obj := ⟨(.type "tuple"), none, (.seq #[] 0), #[]⟩
def o996_0 (P : Params) : Obj := ⟨.none, none, (fO (mth 27 0) (sn "ListDeserializationError.__init__") [] .none .none .none .none none .none .none 0 0), #[]⟩
def o997_0 (P : Params) : Obj := ⟨(.type "code"), none, (.fields #[(vs "__init__" 1544), (vs "ListDeserializationError.__init__" 1545), (vs "/claim/cut.py" 1546), (vi 730), (vi 5), (vi 0), (vi 0), (vi 3), (vr 992), (.bool true), (vi 317), (vr 993), .none, (vr 994), (vr 995), (vr 996), (vi 1553), (vi 730), (vs "/claim/cut.py" 1554)]), #[]⟩
def o998_0 (P : Params) : Obj := ⟨(.type "function"), none, (fO (mth 27 0) (sn "ListDeserializationError.__init__") [(sn "__class__", 985)] (vr 990) .none .none (vs "rlp.exceptions" 1395) none (vr 997) (vr 991) 0 3), #[]⟩
def o999_0 (P : Params) : Obj := ⟨(.type "tuple"), none, (.seq #[(vs "element_exception" 1556), (vs "index" 1557)] 0), #[]⟩
def o1000_0 (P : Params) : Obj := ⟨(.type "dict"), none, (.dict #[de P "__module__" 1539 (vs "rlp.exceptions" 1395), de P "__firstlineno__" 1543 (.int 728 1542), de P "__init__" 1555 (vr 998), de P "__static_attributes__" 1558 (vr 999), de P "__doc__" 1560 .none] 3), #[]⟩
def o1001_0 (P : Params) : Obj := ⟨(.type "type"), none, (.cls { name := sn "ListDeserializationError", bases := [(vr 979)], mro := [(vr 1001), (vr 979), (vr 893), (.type "Exception"), (.type "BaseException"), (.type "object")], ns := 1000, qualname := sn "ListDeserializationError", hasDict := true, slotNames := [], subclasses := [], abstract := false, collection := none, hasDel := false }), #[(some (vr 982)), none, (some (vs "ListDeserializationError" 1532)), (some (vs "ListDeserializationError" 1540)), (some (.builtin "Exception.__new__")), (some (.bool true))]⟩
def o1002_0 (P : Params) : Obj := ⟨(.type "super"), none, (.fields #[(vr 1001), (vr 1001), (vr 1001)]), #[]⟩
def o1003_0 (P : Params) : Obj := ⟨(.type "builtin_function_or_method"), none, (.fields #[(.builtin "object.__init_subclass__"), (vr 1001)]), #[]⟩
def trC (P : Params) : BT := (.node (o0_0 P) (.node (o1_0 P) (.node (o3_2 P) (.node (o7_0 P) (.node (o15_0 P) (.node (o31_0 P) (.node (o63_0 P) (.node (o127_0 P) (.node (o255_0 P) (.node (o511_0 P) .nil .nil) (.node (o767_0 P) .nil .nil)) (.node (o383_0 P) (.node (o639_0 P) .nil .nil) (.node (o895_0 P) .nil .nil))) (.node (o191_0 P) (.node (o319_0 P) (.node (o575_0 P) .nil .nil) (.node (o831_0 P) .nil .nil)) (.node (o447_0 P) (.node (o703_0 P) .nil .nil) (.node (o959_0 P) .nil .nil)))) (.node (o95_0 P) (.node (o159_0 P) (.node (o287_0 P) (.node (o543_0 P) .nil .nil) (.node (o799_0 P) .nil .nil)) (.node (o415_0 P) (.node (o671_0 P) .nil .nil) (.node (o927_0 P) .nil .nil))) (.node (o223_0 P) (.node (o351_0 P) (.node (o607_0 P) .nil .nil) (.node (o863_0 P) .nil .nil)) (.node (o479_0 P) (.node (o735_0 P) .nil .nil) (.node (o991_0 P) .nil .nil))))) (.node (o47_0 P) (.node (o79_0 P) (.node (o143_0 P) (.node (o271_0 P) (.node (o527_0 P) .nil .nil) (.node (o783_0 P) .nil .nil)) (.node (o399_0 P) (.node (o655_0 P) .nil .nil) (.node (o911_0 P) .nil .nil))) (.node (o207_0 P) (.node (o335_0 P) (.node (o591_0 P) .nil .nil) (.node (o847_0 P) .nil .nil)) (.node (o463_0 P) (.node (o719_0 P) .nil .nil) (.node (o975_0 P) .nil .nil)))) (.node (o111_0 P) (.node (o175_0 P) (.node (o303_0 P) (.node (o559_0 P) .nil .nil) (.node (o815_0 P) .nil .nil)) (.node (o431_0 P) (.node (o687_0 P) .nil .nil) (.node (o943_0 P) .nil .nil))) (.node (o239_0 P) (.node (o367_0 P) (.node (o623_0 P) .nil .nil) (.node (o879_0 P) .nil .nil)) (.node (o495_0 P) (.node (o751_0 P) .nil .nil) .nil))))) (.node (o23_0 P) (.node (o39_0 P) (.node (o71_0 P) (.node (o135_0 P) (.node (o263_0 P) (.node (o519_0 P) .nil .nil) (.node (o775_0 P) .nil .nil)) (.node (o391_0 P) (.node (o647_0 P) .nil .nil) (.node (o903_0 P) .nil .nil))) (.node (o199_0 P) (.node (o327_0 P) (.node (o583_0 P) .nil .nil) (.node (o839_0 P) .nil .nil)) (.node (o455_0 P) (.node (o711_0 P) .nil .nil) (.node (o967_0 P) .nil .nil)))) (.node (o103_0 P) (.node (o167_0 P) (.node (o295_0 P) (.node (o551_0 P) .nil .nil) (.node (o807_0 P) .nil .nil)) (.node (o423_0 P) (.node (o679_0 P) .nil .nil) (.node (o935_0 P) .nil .nil))) (.node (o231_0 P) (.node (o359_0 P) (.node (o615_0 P) .nil .nil) (.node (o871_0 P) .nil .nil)) (.node (o487_0 P) (.node (o743_0 P) .nil .nil) (.node (o999_0 P) .nil .nil))))) (.node (o55_0 P) (.node (o87_0 P) (.node (o151_0 P) (.node (o279_0 P) (.node (o535_0 P) .nil .nil) (.node (o791_0 P) .nil .nil)) (.node (o407_0 P) (.node (o663_0 P) .nil .nil) (.node (o919_0 P) .nil .nil))) (.node (o215_0 P) (.node (o343_0 P) (.node (o599_0 P) .nil .nil) (.node (o855_0 P) .nil .nil)) (.node (o471_0 P) (.node (o727_0 P) .nil .nil) (.node (o983_0 P) .nil .nil)))) (.node (o119_0 P) (.node (o183_0 P) (.node (o311_0 P) (.node (o567_0 P) .nil .nil) (.node (o823_0 P) .nil .nil)) (.node (o439_0 P) (.node (o695_0 P) .nil .nil) (.node (o951_0 P) .nil .nil))) (.node (o247_0 P) (.node (o375_0 P) (.node (o631_0 P) .nil .nil) (.node (o887_0 P) .nil .nil)) (.node (o503_0 P) (.node (o759_0 P) .nil .nil) .nil)))))) (.node (o11_0 P) (.node (o19_0 P) (.node (o35_0 P) (.node (o67_0 P) (.node (o131_0 P) (.node (o259_0 P) (.node (o515_0 P) .nil .nil) (.node (o771_0 P) .nil .nil)) (.node (o387_0 P) (.node (o643_0 P) .nil .nil) (.node (o899_0 P) .nil .nil))) (.node (o195_0 P) (.node (o323_0 P) (.node (o579_0 P) .nil .nil) (.node (o835_0 P) .nil .nil)) (.node (o451_0 P) (.node (o707_0 P) .nil .nil) (.node (o963_0 P) .nil .nil)))) (.node (o99_0 P) (.node (o163_0 P) (.node (o291_0 P) (.node (o547_0 P) .nil .nil) (.node (o803_0 P) .nil .nil)) (.node (o419_0 P) (.node (o675_0 P) .nil .nil) (.node (o931_0 P) .nil .nil))) (.node (o227_0 P) (.node (o355_0 P) (.node (o611_0 P) .nil .nil) (.node (o867_0 P) .nil .nil)) (.node (o483_0 P) (.node (o739_0 P) .nil .nil) (.node (o995_0 P) .nil .nil))))) (.node (o51_0 P) (.node (o83_0 P) (.node (o147_0 P) (.node (o275_0 P) (.node (o531_0 P) .nil .nil) (.node (o787_0 P) .nil .nil)) (.node (o403_0 P) (.node (o659_0 P) .nil .nil) (.node (o915_0 P) .nil .nil))) (.node (o211_0 P) (.node (o339_0 P) (.node (o595_0 P) .nil .nil) (.node (o851_0 P) .nil .nil)) (.node (o467_0 P) (.node (o723_0 P) .nil .nil) (.node (o979_0 P) .nil .nil)))) (.node (o115_0 P) (.node (o179_0 P) (.node (o307_0 P) (.node (o563_0 P) .nil .nil) (.node (o819_0 P) .nil .nil)) (.node (o435_0 P) (.node (o691_0 P) .nil .nil) (.node (o947_0 P) .nil .nil))) (.node (o243_0 P) (.node (o371_0 P) (.node (o627_0 P) .nil .nil) (.node (o883_0 P) .nil .nil)) (.node (o499_0 P) (.node (o755_0 P) .nil .nil) .nil))))) (.node (o27_0 P) (.node (o43_0 P) (.node (o75_0 P) (.node (o139_0 P) (.node (o267_0 P) (.node (o523_0 P) .nil .nil) (.node (o779_0 P) .nil .nil)) (.node (o395_0 P) (.node (o651_0 P) .nil .nil) (.node (o907_0 P) .nil .nil))) (.node (o203_0 P) (.node (o331_0 P) (.node (o587_0 P) .nil .nil) (.node (o843_0 P) .nil .nil)) (.node (o459_0 P) (.node (o715_0 P) .nil .nil) (.node (o971_0 P) .nil .nil)))) (.node (o107_0 P) (.node (o171_0 P) (.node (o299_0 P) (.node (o555_0 P) .nil .nil) (.node (o811_0 P) .nil .nil)) (.node (o427_0 P) (.node (o683_0 P) .nil .nil) (.node (o939_0 P) .nil .nil))) (.node (o235_0 P) (.node (o363_0 P) (.node (o619_0 P) .nil .nil) (.node (o875_0 P) .nil .nil)) (.node (o491_0 P) (.node (o747_0 P) .nil .nil) (.node (o1003_0 P) .nil .nil))))) (.node (o59_0 P) (.node (o91_0 P) (.node (o155_0 P) (.node (o283_0 P) (.node (o539_0 P) .nil .nil) (.node (o795_0 P) .nil .nil)) (.node (o411_0 P) (.node (o667_0 P) .nil .nil) (.node (o923_0 P) .nil .nil))) (.node (o219_0 P) (.node (o347_0 P) (.node (o603_0 P) .nil .nil) (.node (o859_0 P) .nil .nil)) (.node (o475_0 P) (.node (o731_0 P) .nil .nil) (.node (o987_0 P) .nil .nil)))) (.node (o123_0 P) (.node (o187_0 P) (.node (o315_0 P) (.node (o571_0 P) .nil .nil) (.node (o827_0 P) .nil .nil)) (.node (o443_0 P) (.node (o699_0 P) .nil .nil) (.node (o955_0 P) .nil .nil))) (.node (o251_0 P) (.node (o379_0 P) (.node (o635_0 P) .nil .nil) (.node (o891_0 P) .nil .nil)) (.node (o507_0 P) (.node (o763_0 P) .nil .nil) .nil))))))) (.node (o5_0 P) (.node (o9_0 P) (.node (o17_0 P) (.node (o33_0 P) (.node (o65_0 P) (.node (o129_0 P) (.node (o257_0 P) (.node (o513_0 P) .nil .nil) (.node (o769_0 P) .nil .nil)) (.node (o385_0 P) (.node (o641_0 P) .nil .nil) (.node (o897_0 P) .nil .nil))) (.node (o193_0 P) (.node (o321_0 P) (.node (o577_0 P) .nil .nil) (.node (o833_0 P) .nil .nil)) (.node (o449_0 P) (.node (o705_0 P) .nil .nil) (.node (o961_0 P) .nil .nil)))) (.node (o97_0 P) (.node (o161_0 P) (.node (o289_1 P) (.node (o545_0 P) .nil .nil) (.node (o801_0 P) .nil .nil)) (.node (o417_0 P) (.node (o673_0 P) .nil .nil) (.node (o929_0 P) .nil .nil))) (.node (o225_0 P) (.node (o353_0 P) (.node (o609_0 P) .nil .nil) (.node (o865_0 P) .nil .nil)) (.node (o481_0 P) (.node (o737_0 P) .nil .nil) (.node (o993_0 P) .nil .nil))))) (.node (o49_0 P) (.node (o81_0 P) (.node (o145_0 P) (.node (o273_0 P) (.node (o529_0 P) .nil .nil) (.node (o785_0 P) .nil .nil)) (.node (o401_0 P) (.node (o657_0 P) .nil .nil) (.node (o913_0 P) .nil .nil))) (.node (o209_0 P) (.node (o337_0 P) (.node (o593_0 P) .nil .nil) (.node (o849_0 P) .nil .nil)) (.node (o465_0 P) (.node (o721_0 P) .nil .nil) (.node (o977_0 P) .nil .nil)))) (.node (o113_0 P) (.node (o177_0 P) (.node (o305_0 P) (.node (o561_0 P) .nil .nil) (.node (o817_0 P) .nil .nil)) (.node (o433_0 P) (.node (o689_0 P) .nil .nil) (.node (o945_0 P) .nil .nil))) (.node (o241_0 P) (.node (o369_0 P) (.node (o625_0 P) .nil .nil) (.node (o881_0 P) .nil .nil)) (.node (o497_0 P) (.node (o753_0 P) .nil .nil) .nil))))) (.node (o25_0 P) (.node (o41_0 P) (.node (o73_0 P) (.node (o137_0 P) (.node (o265_0 P) (.node (o521_0 P) .nil .nil) (.node (o777_0 P) .nil .nil)) (.node (o393_0 P) (.node (o649_0 P) .nil .nil) (.node (o905_0 P) .nil .nil))) (.node (o201_0 P) (.node (o329_0 P) (.node (o585_0 P) .nil .nil) (.node (o841_0 P) .nil .nil)) (.node (o457_0 P) (.node (o713_0 P) .nil .nil) (.node (o969_0 P) .nil .nil)))) (.node (o105_0 P) (.node (o169_0 P) (.node (o297_0 P) (.node (o553_0 P) .nil .nil) (.node (o809_0 P) .nil .nil)) (.node (o425_0 P) (.node (o681_0 P) .nil .nil) (.node (o937_0 P) .nil .nil))) (.node (o233_0 P) (.node (o361_0 P) (.node (o617_0 P) .nil .nil) (.node (o873_0 P) .nil .nil)) (.node (o489_0 P) (.node (o745_0 P) .nil .nil) (.node (o1001_0 P) .nil .nil))))) (.node (o57_0 P) (.node (o89_0 P) (.node (o153_0 P) (.node (o281_0 P) (.node (o537_0 P) .nil .nil) (.node (o793_0 P) .nil .nil)) (.node (o409_0 P) (.node (o665_0 P) .nil .nil) (.node (o921_0 P) .nil .nil))) (.node (o217_0 P) (.node (o345_0 P) (.node (o601_0 P) .nil .nil) (.node (o857_0 P) .nil .nil)) (.node (o473_0 P) (.node (o729_0 P) .nil .nil) (.node (o985_0 P) .nil .nil)))) (.node (o121_0 P) (.node (o185_0 P) (.node (o313_0 P) (.node (o569_0 P) .nil .nil) (.node (o825_0 P) .nil .nil)) (.node (o441_0 P) (.node (o697_0 P) .nil .nil) (.node (o953_0 P) .nil .nil))) (.node (o249_0 P) (.node (o377_0 P) (.node (o633_0 P) .nil .nil) (.node (o889_0 P) .nil .nil)) (.node (o505_0 P) (.node (o761_0 P) .nil .nil) .nil)))))) (.node (o13_0 P) (.node (o21_0 P) (.node (o37_0 P) (.node (o69_0 P) (.node (o133_0 P) (.node (o261_0 P) (.node (o517_0 P) .nil .nil) (.node (o773_0 P) .nil .nil)) (.node (o389_0 P) (.node (o645_0 P) .nil .nil) (.node (o901_0 P) .nil .nil))) (.node (o197_0 P) (.node (o325_0 P) (.node (o581_0 P) .nil .nil) (.node (o837_0 P) .nil .nil)) (.node (o453_0 P) (.node (o709_0 P) .nil .nil) (.node (o965_0 P) .nil .nil)))) (.node (o101_0 P) (.node (o165_0 P) (.node (o293_0 P) (.node (o549_0 P) .nil .nil) (.node (o805_0 P) .nil .nil)) (.node (o421_0 P) (.node (o677_0 P) .nil .nil) (.node (o933_0 P) .nil .nil))) (.node (o229_0 P) (.node (o357_0 P) (.node (o613_0 P) .nil .nil) (.node (o869_0 P) .nil .nil)) (.node (o485_0 P) (.node (o741_0 P) .nil .nil) (.node (o997_0 P) .nil .nil))))) (.node (o53_0 P) (.node (o85_0 P) (.node (o149_0 P) (.node (o277_0 P) (.node (o533_0 P) .nil .nil) (.node (o789_0 P) .nil .nil)) (.node (o405_0 P) (.node (o661_0 P) .nil .nil) (.node (o917_0 P) .nil .nil))) (.node (o213_0 P) (.node (o341_0 P) (.node (o597_0 P) .nil .nil) (.node (o853_0 P) .nil .nil)) (.node (o469_0 P) (.node (o725_0 P) .nil .nil) (.node (o981_0 P) .nil .nil)))) (.node (o117_0 P) (.node (o181_0 P) (.node (o309_0 P) (.node (o565_0 P) .nil .nil) (.node (o821_0 P) .nil .nil)) (.node (o437_0 P) (.node (o693_0 P) .nil .nil) (.node (o949_0 P) .nil .nil))) (.node (o245_0 P) (.node (o373_0 P) (.node (o629_0 P) .nil .nil) (.node (o885_0 P) .nil .nil)) (.node (o501_0 P) (.node (o757_0 P) .nil .nil) .nil))))) (.node (o29_0 P) (.node (o45_0 P) (.node (o77_0 P) (.node (o141_0 P) (.node (o269_0 P) (.node (o525_0 P) .nil .nil) (.node (o781_0 P) .nil .nil)) (.node (o397_0 P) (.node (o653_0 P) .nil .nil) (.node (o909_0 P) .nil .nil))) (.node (o205_0 P) (.node (o333_0 P) (.node (o589_0 P) .nil .nil) (.node (o845_0 P) .nil .nil)) (.node (o461_0 P) (.node (o717_0 P) .nil .nil) (.node (o973_0 P) .nil .nil)))) (.node (o109_0 P) (.node (o173_0 P) (.node (o301_0 P) (.node (o557_0 P) .nil .nil) (.node (o813_0 P) .nil .nil)) (.node (o429_0 P) (.node (o685_0 P) .nil .nil) (.node (o941_0 P) .nil .nil))) (.node (o237_0 P) (.node (o365_0 P) (.node (o621_0 P) .nil .nil) (.node (o877_0 P) .nil .nil)) (.node (o493_0 P) (.node (o749_0 P) .nil .nil) .nil)))) (.node (o61_0 P) (.node (o93_0 P) (.node (o157_0 P) (.node (o285_0 P) (.node (o541_0 P) .nil .nil) (.node (o797_0 P) .nil .nil)) (.node (o413_0 P) (.node (o669_0 P) .nil .nil) (.node (o925_0 P) .nil .nil))) (.node (o221_0 P) (.node (o349_0 P) (.node (o605_0 P) .nil .nil) (.node (o861_0 P) .nil .nil)) (.node (o477_0 P) (.node (o733_0 P) .nil .nil) (.node (o989_0 P) .nil .nil)))) (.node (o125_0 P) (.node (o189_0 P) (.node (o317_0 P) (.node (o573_0 P) .nil .nil) (.node (o829_0 P) .nil .nil)) (.node (o445_0 P) (.node (o701_0 P) .nil .nil) (.node (o957_0 P) .nil .nil))) (.node (o253_0 P) (.node (o381_0 P) (.node (o637_0 P) .nil .nil) (.node (o893_0 P) .nil .nil)) (.node (o509_0 P) (.node (o765_0 P) .nil .nil) .nil)))))))) (.node (o2_2 P) (.node (o4_0 P) (.node (o8_0 P) (.node (o16_0 P) (.node (o32_0 P) (.node (o64_0 P) (.node (o128_0 P) (.node (o256_0 P) (.node (o512_0 P) .nil .nil) (.node (o768_0 P) .nil .nil)) (.node (o384_0 P) (.node (o640_0 P) .nil .nil) (.node (o896_0 P) .nil .nil))) (.node (o192_0 P) (.node (o320_0 P) (.node (o576_0 P) .nil .nil) (.node (o832_0 P) .nil .nil)) (.node (o448_0 P) (.node (o704_0 P) .nil .nil) (.node (o960_0 P) .nil .nil)))) (.node (o96_0 P) (.node (o160_0 P) (.node (o288_0 P) (.node (o544_0 P) .nil .nil) (.node (o800_0 P) .nil .nil)) (.node (o416_0 P) (.node (o672_0 P) .nil .nil) (.node (o928_0 P) .nil .nil))) (.node (o224_0 P) (.node (o352_0 P) (.node (o608_0 P) .nil .nil) (.node (o864_0 P) .nil .nil)) (.node (o480_0 P) (.node (o736_0 P) .nil .nil) (.node (o992_0 P) .nil .nil))))) (.node (o48_0 P) (.node (o80_0 P) (.node (o144_0 P) (.node (o272_0 P) (.node (o528_0 P) .nil .nil) (.node (o784_0 P) .nil .nil)) (.node (o400_0 P) (.node (o656_0 P) .nil .nil) (.node (o912_0 P) .nil .nil))) (.node (o208_0 P) (.node (o336_0 P) (.node (o592_0 P) .nil .nil) (.node (o848_0 P) .nil .nil)) (.node (o464_0 P) (.node (o720_0 P) .nil .nil) (.node (o976_0 P) .nil .nil)))) (.node (o112_0 P) (.node (o176_0 P) (.node (o304_0 P) (.node (o560_0 P) .nil .nil) (.node (o816_0 P) .nil .nil)) (.node (o432_0 P) (.node (o688_0 P) .nil .nil) (.node (o944_0 P) .nil .nil))) (.node (o240_0 P) (.node (o368_0 P) (.node (o624_0 P) .nil .nil) (.node (o880_0 P) .nil .nil)) (.node (o496_0 P) (.node (o752_0 P) .nil .nil) .nil))))) (.node (o24_0 P) (.node (o40_2 P) (.node (o72_0 P) (.node (o136_0 P) (.node (o264_0 P) (.node (o520_0 P) .nil .nil) (.node (o776_0 P) .nil .nil)) (.node (o392_0 P) (.node (o648_0 P) .nil .nil) (.node (o904_0 P) .nil .nil))) (.node (o200_0 P) (.node (o328_0 P) (.node (o584_0 P) .nil .nil) (.node (o840_0 P) .nil .nil)) (.node (o456_0 P) (.node (o712_0 P) .nil .nil) (.node (o968_0 P) .nil .nil)))) (.node (o104_0 P) (.node (o168_0 P) (.node (o296_0 P) (.node (o552_0 P) .nil .nil) (.node (o808_0 P) .nil .nil)) (.node (o424_0 P) (.node (o680_0 P) .nil .nil) (.node (o936_0 P) .nil .nil))) (.node (o232_0 P) (.node (o360_0 P) (.node (o616_0 P) .nil .nil) (.node (o872_0 P) .nil .nil)) (.node (o488_0 P) (.node (o744_0 P) .nil .nil) (.node (o1000_0 P) .nil .nil))))) (.node (o56_0 P) (.node (o88_0 P) (.node (o152_0 P) (.node (o280_0 P) (.node (o536_0 P) .nil .nil) (.node (o792_0 P) .nil .nil)) (.node (o408_0 P) (.node (o664_0 P) .nil .nil) (.node (o920_0 P) .nil .nil))) (.node (o216_0 P) (.node (o344_0 P) (.node (o600_0 P) .nil .nil) (.node (o856_0 P) .nil .nil)) (.node (o472_0 P) (.node (o728_0 P) .nil .nil) (.node (o984_0 P) .nil .nil)))) (.node (o120_0 P) (.node (o184_0 P) (.node (o312_0 P) (.node (o568_0 P) .nil .nil) (.node (o824_0 P) .nil .nil)) (.node (o440_0 P) (.node (o696_0 P) .nil .nil) (.node (o952_0 P) .nil .nil))) (.node (o248_0 P) (.node (o376_0 P) (.node (o632_0 P) .nil .nil) (.node (o888_0 P) .nil .nil)) (.node (o504_0 P) (.node (o760_0 P) .nil .nil) .nil)))))) (.node (o12_0 P) (.node (o20_0 P) (.node (o36_0 P) (.node (o68_0 P) (.node (o132_0 P) (.node (o260_0 P) (.node (o516_0 P) .nil .nil) (.node (o772_0 P) .nil .nil)) (.node (o388_0 P) (.node (o644_0 P) .nil .nil) (.node (o900_0 P) .nil .nil))) (.node (o196_0 P) (.node (o324_0 P) (.node (o580_0 P) .nil .nil) (.node (o836_0 P) .nil .nil)) (.node (o452_0 P) (.node (o708_0 P) .nil .nil) (.node (o964_0 P) .nil .nil)))) (.node (o100_0 P) (.node (o164_0 P) (.node (o292_0 P) (.node (o548_0 P) .nil .nil) (.node (o804_0 P) .nil .nil)) (.node (o420_0 P) (.node (o676_0 P) .nil .nil) (.node (o932_0 P) .nil .nil))) (.node (o228_0 P) (.node (o356_0 P) (.node (o612_0 P) .nil .nil) (.node (o868_0 P) .nil .nil)) (.node (o484_0 P) (.node (o740_0 P) .nil .nil) (.node (o996_0 P) .nil .nil))))) (.node (o52_0 P) (.node (o84_0 P) (.node (o148_0 P) (.node (o276_0 P) (.node (o532_0 P) .nil .nil) (.node (o788_0 P) .nil .nil)) (.node (o404_0 P) (.node (o660_0 P) .nil .nil) (.node (o916_0 P) .nil .nil))) (.node (o212_0 P) (.node (o340_0 P) (.node (o596_0 P) .nil .nil) (.node (o852_0 P) .nil .nil)) (.node (o468_0 P) (.node (o724_0 P) .nil .nil) (.node (o980_0 P) .nil .nil)))) (.node (o116_0 P) (.node (o180_0 P) (.node (o308_0 P) (.node (o564_0 P) .nil .nil) (.node (o820_0 P) .nil .nil)) (.node (o436_0 P) (.node (o692_0 P) .nil .nil) (.node (o948_0 P) .nil .nil))) (.node (o244_0 P) (.node (o372_0 P) (.node (o628_0 P) .nil .nil) (.node (o884_0 P) .nil .nil)) (.node (o500_0 P) (.node (o756_0 P) .nil .nil) .nil))))) (.node (o28_0 P) (.node (o44_0 P) (.node (o76_0 P) (.node (o140_0 P) (.node (o268_0 P) (.node (o524_0 P) .nil .nil) (.node (o780_0 P) .nil .nil)) (.node (o396_0 P) (.node (o652_0 P) .nil .nil) (.node (o908_0 P) .nil .nil))) (.node (o204_0 P) (.node (o332_0 P) (.node (o588_0 P) .nil .nil) (.node (o844_0 P) .nil .nil)) (.node (o460_0 P) (.node (o716_0 P) .nil .nil) (.node (o972_0 P) .nil .nil)))) (.node (o108_0 P) (.node (o172_0 P) (.node (o300_0 P) (.node (o556_0 P) .nil .nil) (.node (o812_0 P) .nil .nil)) (.node (o428_0 P) (.node (o684_0 P) .nil .nil) (.node (o940_0 P) .nil .nil))) (.node (o236_0 P) (.node (o364_0 P) (.node (o620_0 P) .nil .nil) (.node (o876_0 P) .nil .nil)) (.node (o492_0 P) (.node (o748_0 P) .nil .nil) .nil)))) (.node (o60_0 P) (.node (o92_0 P) (.node (o156_0 P) (.node (o284_0 P) (.node (o540_0 P) .nil .nil) (.node (o796_0 P) .nil .nil)) (.node (o412_0 P) (.node (o668_0 P) .nil .nil) (.node (o924_0 P) .nil .nil))) (.node (o220_0 P) (.node (o348_0 P) (.node (o604_0 P) .nil .nil) (.node (o860_0 P) .nil .nil)) (.node (o476_0 P) (.node (o732_0 P) .nil .nil) (.node (o988_0 P) .nil .nil)))) (.node (o124_0 P) (.node (o188_0 P) (.node (o316_0 P) (.node (o572_0 P) .nil .nil) (.node (o828_0 P) .nil .nil)) (.node (o444_0 P) (.node (o700_0 P) .nil .nil) (.node (o956_0 P) .nil .nil))) (.node (o252_0 P) (.node (o380_0 P) (.node (o636_0 P) .nil .nil) (.node (o892_0 P) .nil .nil)) (.node (o508_0 P) (.node (o764_0 P) .nil .nil) .nil))))))) (.node (o6_0 P) (.node (o10_0 P) (.node (o18_0 P) (.node (o34_0 P) (.node (o66_0 P) (.node (o130_0 P) (.node (o258_0 P) (.node (o514_0 P) .nil .nil) (.node (o770_0 P) .nil .nil)) (.node (o386_0 P) (.node (o642_0 P) .nil .nil) (.node (o898_0 P) .nil .nil))) (.node (o194_0 P) (.node (o322_0 P) (.node (o578_0 P) .nil .nil) (.node (o834_0 P) .nil .nil)) (.node (o450_0 P) (.node (o706_0 P) .nil .nil) (.node (o962_0 P) .nil .nil)))) (.node (o98_0 P) (.node (o162_0 P) (.node (o290_0 P) (.node (o546_0 P) .nil .nil) (.node (o802_0 P) .nil .nil)) (.node (o418_0 P) (.node (o674_0 P) .nil .nil) (.node (o930_0 P) .nil .nil))) (.node (o226_0 P) (.node (o354_0 P) (.node (o610_0 P) .nil .nil) (.node (o866_0 P) .nil .nil)) (.node (o482_0 P) (.node (o738_0 P) .nil .nil) (.node (o994_0 P) .nil .nil))))) (.node (o50_0 P) (.node (o82_0 P) (.node (o146_0 P) (.node (o274_0 P) (.node (o530_0 P) .nil .nil) (.node (o786_0 P) .nil .nil)) (.node (o402_0 P) (.node (o658_0 P) .nil .nil) (.node (o914_0 P) .nil .nil))) (.node (o210_0 P) (.node (o338_0 P) (.node (o594_0 P) .nil .nil) (.node (o850_0 P) .nil .nil)) (.node (o466_0 P) (.node (o722_0 P) .nil .nil) (.node (o978_0 P) .nil .nil)))) (.node (o114_0 P) (.node (o178_0 P) (.node (o306_0 P) (.node (o562_0 P) .nil .nil) (.node (o818_0 P) .nil .nil)) (.node (o434_0 P) (.node (o690_0 P) .nil .nil) (.node (o946_0 P) .nil .nil))) (.node (o242_0 P) (.node (o370_0 P) (.node (o626_0 P) .nil .nil) (.node (o882_0 P) .nil .nil)) (.node (o498_0 P) (.node (o754_0 P) .nil .nil) .nil))))) (.node (o26_0 P) (.node (o42_0 P) (.node (o74_0 P) (.node (o138_0 P) (.node (o266_0 P) (.node (o522_0 P) .nil .nil) (.node (o778_0 P) .nil .nil)) (.node (o394_0 P) (.node (o650_0 P) .nil .nil) (.node (o906_0 P) .nil .nil))) (.node (o202_0 P) (.node (o330_0 P) (.node (o586_0 P) .nil .nil) (.node (o842_0 P) .nil .nil)) (.node (o458_0 P) (.node (o714_0 P) .nil .nil) (.node (o970_0 P) .nil .nil)))) (.node (o106_0 P) (.node (o170_0 P) (.node (o298_0 P) (.node (o554_0 P) .nil .nil) (.node (o810_0 P) .nil .nil)) (.node (o426_0 P) (.node (o682_0 P) .nil .nil) (.node (o938_0 P) .nil .nil))) (.node (o234_0 P) (.node (o362_0 P) (.node (o618_0 P) .nil .nil) (.node (o874_0 P) .nil .nil)) (.node (o490_0 P) (.node (o746_0 P) .nil .nil) (.node (o1002_0 P) .nil .nil))))) (.node (o58_0 P) (.node (o90_0 P) (.node (o154_0 P) (.node (o282_0 P) (.node (o538_0 P) .nil .nil) (.node (o794_0 P) .nil .nil)) (.node (o410_0 P) (.node (o666_0 P) .nil .nil) (.node (o922_0 P) .nil .nil))) (.node (o218_0 P) (.node (o346_0 P) (.node (o602_0 P) .nil .nil) (.node (o858_0 P) .nil .nil)) (.node (o474_0 P) (.node (o730_0 P) .nil .nil) (.node (o986_0 P) .nil .nil)))) (.node (o122_0 P) (.node (o186_0 P) (.node (o314_0 P) (.node (o570_0 P) .nil .nil) (.node (o826_0 P) .nil .nil)) (.node (o442_0 P) (.node (o698_0 P) .nil .nil) (.node (o954_0 P) .nil .nil))) (.node (o250_0 P) (.node (o378_0 P) (.node (o634_0 P) .nil .nil) (.node (o890_0 P) .nil .nil)) (.node (o506_0 P) (.node (o762_0 P) .nil .nil) .nil)))))) (.node (o14_0 P) (.node (o22_0 P) (.node (o38_0 P) (.node (o70_0 P) (.node (o134_0 P) (.node (o262_0 P) (.node (o518_0 P) .nil .nil) (.node (o774_0 P) .nil .nil)) (.node (o390_0 P) (.node (o646_0 P) .nil .nil) (.node (o902_0 P) .nil .nil))) (.node (o198_0 P) (.node (o326_0 P) (.node (o582_0 P) .nil .nil) (.node (o838_0 P) .nil .nil)) (.node (o454_0 P) (.node (o710_0 P) .nil .nil) (.node (o966_0 P) .nil .nil)))) (.node (o102_0 P) (.node (o166_0 P) (.node (o294_0 P) (.node (o550_0 P) .nil .nil) (.node (o806_0 P) .nil .nil)) (.node (o422_0 P) (.node (o678_0 P) .nil .nil) (.node (o934_0 P) .nil .nil))) (.node (o230_0 P) (.node (o358_0 P) (.node (o614_0 P) .nil .nil) (.node (o870_0 P) .nil .nil)) (.node (o486_0 P) (.node (o742_0 P) .nil .nil) (.node (o998_0 P) .nil .nil))))) (.node (o54_0 P) (.node (o86_0 P) (.node (o150_0 P) (.node (o278_0 P) (.node (o534_0 P) .nil .nil) (.node (o790_0 P) .nil .nil)) (.node (o406_0 P) (.node (o662_0 P) .nil .nil) (.node (o918_0 P) .nil .nil))) (.node (o214_0 P) (.node (o342_0 P) (.node (o598_0 P) .nil .nil) (.node (o854_0 P) .nil .nil)) (.node (o470_0 P) (.node (o726_0 P) .nil .nil) (.node (o982_0 P) .nil .nil)))) (.node (o118_0 P) (.node (o182_0 P) (.node (o310_0 P) (.node (o566_0 P) .nil .nil) (.node (o822_0 P) .nil .nil)) (.node (o438_0 P) (.node (o694_0 P) .nil .nil) (.node (o950_0 P) .nil .nil))) (.node (o246_0 P) (.node (o374_0 P) (.node (o630_0 P) .nil .nil) (.node (o886_0 P) .nil .nil)) (.node (o502_0 P) (.node (o758_0 P) .nil .nil) .nil))))) (.node (o30_0 P) (.node (o46_0 P) (.node (o78_0 P) (.node (o142_0 P) (.node (o270_0 P) (.node (o526_0 P) .nil .nil) (.node (o782_0 P) .nil .nil)) (.node (o398_0 P) (.node (o654_0 P) .nil .nil) (.node (o910_0 P) .nil .nil))) (.node (o206_0 P) (.node (o334_0 P) (.node (o590_0 P) .nil .nil) (.node (o846_0 P) .nil .nil)) (.node (o462_0 P) (.node (o718_0 P) .nil .nil) (.node (o974_0 P) .nil .nil)))) (.node (o110_0 P) (.node (o174_0 P) (.node (o302_0 P) (.node (o558_0 P) .nil .nil) (.node (o814_0 P) .nil .nil)) (.node (o430_0 P) (.node (o686_0 P) .nil .nil) (.node (o942_0 P) .nil .nil))) (.node (o238_0 P) (.node (o366_0 P) (.node (o622_0 P) .nil .nil) (.node (o878_0 P) .nil .nil)) (.node (o494_0 P) (.node (o750_0 P) .nil .nil) .nil)))) (.node (o62_0 P) (.node (o94_0 P) (.node (o158_0 P) (.node (o286_0 P) (.node (o542_0 P) .nil .nil) (.node (o798_0 P) .nil .nil)) (.node (o414_0 P) (.node (o670_0 P) .nil .nil) (.node (o926_0 P) .nil .nil))) (.node (o222_0 P) (.node (o350_0 P) (.node (o606_0 P) .nil .nil) (.node (o862_0 P) .nil .nil)) (.node (o478_0 P) (.node (o734_0 P) .nil .nil) (.node (o990_0 P) .nil .nil)))) (.node (o126_0 P) (.node (o190_0 P) (.node (o318_0 P) (.node (o574_0 P) .nil .nil) (.node (o830_0 P) .nil .nil)) (.node (o446_0 P) (.node (o702_0 P) .nil .nil) (.node (o958_0 P) .nil .nil))) (.node (o254_0 P) (.node (o382_0 P) (.node (o638_0 P) .nil .nil) (.node (o894_0 P) .nil .nil)) (.node (o510_0 P) (.node (o766_0 P) .nil .nil) .nil)))))))))
def o40_3 (P : Params) : Obj := ⟨.none, none, (.fields #[(vi 2), (vi 0), (vr 48), (vi 6), (vi 0), (vr 55), (vi 9), (vi 0), (vr 69), (vi 31), (vi 0), (vr 114), (vi 99), (vi 0), (vr 217), (vi 105), (vi 0), (vr 224), (vi 110), (vi 0), (vr 231), (vi 117), (vi 0), (vr 238), (vi 119), (vi 0), (vr 251), (vi 126), (vi 0), (vr 273), (vi 128), (vi 0), (vr 285), (vi 130), (vi 0), (vr 297), (vi 301), (vi 0), (vr 527), (vi 508), (vi 0), (vr 774), (vi 701), (vi 0), (vr 889), (vi 703), (vi 0), (vr 903), (vi 708), (vi 0), (vr 924), (vi 713), (vi 0), (vr 945), (vi 723), (vi 0), (vr 967), (vi 728), (vi 0), (vr 988), (vi 739), (vi 18), (vr 1008)]), #[]⟩
def o1004_0 (P : Params) : Obj := ⟨(.type "range"), none, (.fields #[(.int 0 1566), (.int 256 1565), (.int 1 1567)]), #[]⟩
def o1005_0 (P : Params) : Obj := ⟨(.type "range_iterator"), none, (.fields #[(vi 1), (vi 255), (vi 1)]), #[]⟩
def o1006_0 (P : Params) : Obj := ⟨(.type "tuple"), none, (.seq #[] 0), #[]⟩
def o1007_0 (P : Params) : Obj := ⟨.none, none, (.fields #[]), #[]⟩
def o1008_0 (P : Params) : Obj := ⟨(.type "code"), none, (.fields #[(vs "<genexpr>" 1568), (vs "<genexpr>" 1569), (vs "/claim/cut.py" 1570), (vi 739), (vi 1), (vi 0), (vi 0), (vi 35), (vr 1006), (.bool true), (vi 317), (vr 1007), .none, .none, .none, .none, (vi 1571), (vi 739), (vs "/claim/cut.py" 1572)]), #[]⟩
def o1009_0 (P : Params) : Obj := ⟨(.type "frame"), none, (.dict #[de P ".0" 1573 (vr 1005), de P "i" 1577 (.int 0 1576)] 2), #[]⟩
def o1010_0 (P : Params) : Obj := ⟨(.type "generator"), none, (.fields #[(vi 0), (vs "<genexpr>" 1574), (vs "<genexpr>" 1575)]), #[]⟩
def o1011_0 (P : Params) : Obj := ⟨(.type "list"), none, (.seq #[(.bytes #[0] 1579)] 3), #[]⟩
def trL (P : Params) : BT := (.node (o0_0 P) (.node (o1_0 P) (.node (o3_2 P) (.node (o7_0 P) (.node (o15_0 P) (.node (o31_0 P) (.node (o63_0 P) (.node (o127_0 P) (.node (o255_0 P) (.node (o511_0 P) .nil .nil) (.node (o767_0 P) .nil .nil)) (.node (o383_0 P) (.node (o639_0 P) .nil .nil) (.node (o895_0 P) .nil .nil))) (.node (o191_0 P) (.node (o319_0 P) (.node (o575_0 P) .nil .nil) (.node (o831_0 P) .nil .nil)) (.node (o447_0 P) (.node (o703_0 P) .nil .nil) (.node (o959_0 P) .nil .nil)))) (.node (o95_0 P) (.node (o159_0 P) (.node (o287_0 P) (.node (o543_0 P) .nil .nil) (.node (o799_0 P) .nil .nil)) (.node (o415_0 P) (.node (o671_0 P) .nil .nil) (.node (o927_0 P) .nil .nil))) (.node (o223_0 P) (.node (o351_0 P) (.node (o607_0 P) .nil .nil) (.node (o863_0 P) .nil .nil)) (.node (o479_0 P) (.node (o735_0 P) .nil .nil) (.node (o991_0 P) .nil .nil))))) (.node (o47_0 P) (.node (o79_0 P) (.node (o143_0 P) (.node (o271_0 P) (.node (o527_0 P) .nil .nil) (.node (o783_0 P) .nil .nil)) (.node (o399_0 P) (.node (o655_0 P) .nil .nil) (.node (o911_0 P) .nil .nil))) (.node (o207_0 P) (.node (o335_0 P) (.node (o591_0 P) .nil .nil) (.node (o847_0 P) .nil .nil)) (.node (o463_0 P) (.node (o719_0 P) .nil .nil) (.node (o975_0 P) .nil .nil)))) (.node (o111_0 P) (.node (o175_0 P) (.node (o303_0 P) (.node (o559_0 P) .nil .nil) (.node (o815_0 P) .nil .nil)) (.node (o431_0 P) (.node (o687_0 P) .nil .nil) (.node (o943_0 P) .nil .nil))) (.node (o239_0 P) (.node (o367_0 P) (.node (o623_0 P) .nil .nil) (.node (o879_0 P) .nil .nil)) (.node (o495_0 P) (.node (o751_0 P) .nil .nil) (.node (o1007_0 P) .nil .nil)))))) (.node (o23_0 P) (.node (o39_0 P) (.node (o71_0 P) (.node (o135_0 P) (.node (o263_0 P) (.node (o519_0 P) .nil .nil) (.node (o775_0 P) .nil .nil)) (.node (o391_0 P) (.node (o647_0 P) .nil .nil) (.node (o903_0 P) .nil .nil))) (.node (o199_0 P) (.node (o327_0 P) (.node (o583_0 P) .nil .nil) (.node (o839_0 P) .nil .nil)) (.node (o455_0 P) (.node (o711_0 P) .nil .nil) (.node (o967_0 P) .nil .nil)))) (.node (o103_0 P) (.node (o167_0 P) (.node (o295_0 P) (.node (o551_0 P) .nil .nil) (.node (o807_0 P) .nil .nil)) (.node (o423_0 P) (.node (o679_0 P) .nil .nil) (.node (o935_0 P) .nil .nil))) (.node (o231_0 P) (.node (o359_0 P) (.node (o615_0 P) .nil .nil) (.node (o871_0 P) .nil .nil)) (.node (o487_0 P) (.node (o743_0 P) .nil .nil) (.node (o999_0 P) .nil .nil))))) (.node (o55_0 P) (.node (o87_0 P) (.node (o151_0 P) (.node (o279_0 P) (.node (o535_0 P) .nil .nil) (.node (o791_0 P) .nil .nil)) (.node (o407_0 P) (.node (o663_0 P) .nil .nil) (.node (o919_0 P) .nil .nil))) (.node (o215_0 P) (.node (o343_0 P) (.node (o599_0 P) .nil .nil) (.node (o855_0 P) .nil .nil)) (.node (o471_0 P) (.node (o727_0 P) .nil .nil) (.node (o983_0 P) .nil .nil)))) (.node (o119_0 P) (.node (o183_0 P) (.node (o311_0 P) (.node (o567_0 P) .nil .nil) (.node (o823_0 P) .nil .nil)) (.node (o439_0 P) (.node (o695_0 P) .nil .nil) (.node (o951_0 P) .nil .nil))) (.node (o247_0 P) (.node (o375_0 P) (.node (o631_0 P) .nil .nil) (.node (o887_0 P) .nil .nil)) (.node (o503_0 P) (.node (o759_0 P) .nil .nil) .nil)))))) (.node (o11_0 P) (.node (o19_0 P) (.node (o35_0 P) (.node (o67_0 P) (.node (o131_0 P) (.node (o259_0 P) (.node (o515_0 P) .nil .nil) (.node (o771_0 P) .nil .nil)) (.node (o387_0 P) (.node (o643_0 P) .nil .nil) (.node (o899_0 P) .nil .nil))) (.node (o195_0 P) (.node (o323_0 P) (.node (o579_0 P) .nil .nil) (.node (o835_0 P) .nil .nil)) (.node (o451_0 P) (.node (o707_0 P) .nil .nil) (.node (o963_0 P) .nil .nil)))) (.node (o99_0 P) (.node (o163_0 P) (.node (o291_0 P) (.node (o547_0 P) .nil .nil) (.node (o803_0 P) .nil .nil)) (.node (o419_0 P) (.node (o675_0 P) .nil .nil) (.node (o931_0 P) .nil .nil))) (.node (o227_0 P) (.node (o355_0 P) (.node (o611_0 P) .nil .nil) (.node (o867_0 P) .nil .nil)) (.node (o483_0 P) (.node (o739_0 P) .nil .nil) (.node (o995_0 P) .nil .nil))))) (.node (o51_0 P) (.node (o83_0 P) (.node (o147_0 P) (.node (o275_0 P) (.node (o531_0 P) .nil .nil) (.node (o787_0 P) .nil .nil)) (.node (o403_0 P) (.node (o659_0 P) .nil .nil) (.node (o915_0 P) .nil .nil))) (.node (o211_0 P) (.node (o339_0 P) (.node (o595_0 P) .nil .nil) (.node (o851_0 P) .nil .nil)) (.node (o467_0 P) (.node (o723_0 P) .nil .nil) (.node (o979_0 P) .nil .nil)))) (.node (o115_0 P) (.node (o179_0 P) (.node (o307_0 P) (.node (o563_0 P) .nil .nil) (.node (o819_0 P) .nil .nil)) (.node (o435_0 P) (.node (o691_0 P) .nil .nil) (.node (o947_0 P) .nil .nil))) (.node (o243_0 P) (.node (o371_0 P) (.node (o627_0 P) .nil .nil) (.node (o883_0 P) .nil .nil)) (.node (o499_0 P) (.node (o755_0 P) .nil .nil) (.node (o1011_0 P) .nil .nil)))))) (.node (o27_0 P) (.node (o43_0 P) (.node (o75_0 P) (.node (o139_0 P) (.node (o267_0 P) (.node (o523_0 P) .nil .nil) (.node (o779_0 P) .nil .nil)) (.node (o395_0 P) (.node (o651_0 P) .nil .nil) (.node (o907_0 P) .nil .nil))) (.node (o203_0 P) (.node (o331_0 P) (.node (o587_0 P) .nil .nil) (.node (o843_0 P) .nil .nil)) (.node (o459_0 P) (.node (o715_0 P) .nil .nil) (.node (o971_0 P) .nil .nil)))) (.node (o107_0 P) (.node (o171_0 P) (.node (o299_0 P) (.node (o555_0 P) .nil .nil) (.node (o811_0 P) .nil .nil)) (.node (o427_0 P) (.node (o683_0 P) .nil .nil) (.node (o939_0 P) .nil .nil))) (.node (o235_0 P) (.node (o363_0 P) (.node (o619_0 P) .nil .nil) (.node (o875_0 P) .nil .nil)) (.node (o491_0 P) (.node (o747_0 P) .nil .nil) (.node (o1003_0 P) .nil .nil))))) (.node (o59_0 P) (.node (o91_0 P) (.node (o155_0 P) (.node (o283_0 P) (.node (o539_0 P) .nil .nil) (.node (o795_0 P) .nil .nil)) (.node (o411_0 P) (.node (o667_0 P) .nil .nil) (.node (o923_0 P) .nil .nil))) (.node (o219_0 P) (.node (o347_0 P) (.node (o603_0 P) .nil .nil) (.node (o859_0 P) .nil .nil)) (.node (o475_0 P) (.node (o731_0 P) .nil .nil) (.node (o987_0 P) .nil .nil)))) (.node (o123_0 P) (.node (o187_0 P) (.node (o315_0 P) (.node (o571_0 P) .nil .nil) (.node (o827_0 P) .nil .nil)) (.node (o443_0 P) (.node (o699_0 P) .nil .nil) (.node (o955_0 P) .nil .nil))) (.node (o251_0 P) (.node (o379_0 P) (.node (o635_0 P) .nil .nil) (.node (o891_0 P) .nil .nil)) (.node (o507_0 P) (.node (o763_0 P) .nil .nil) .nil))))))) (.node (o5_0 P) (.node (o9_0 P) (.node (o17_0 P) (.node (o33_0 P) (.node (o65_0 P) (.node (o129_0 P) (.node (o257_0 P) (.node (o513_0 P) .nil .nil) (.node (o769_0 P) .nil .nil)) (.node (o385_0 P) (.node (o641_0 P) .nil .nil) (.node (o897_0 P) .nil .nil))) (.node (o193_0 P) (.node (o321_0 P) (.node (o577_0 P) .nil .nil) (.node (o833_0 P) .nil .nil)) (.node (o449_0 P) (.node (o705_0 P) .nil .nil) (.node (o961_0 P) .nil .nil)))) (.node (o97_0 P) (.node (o161_0 P) (.node (o289_1 P) (.node (o545_0 P) .nil .nil) (.node (o801_0 P) .nil .nil)) (.node (o417_0 P) (.node (o673_0 P) .nil .nil) (.node (o929_0 P) .nil .nil))) (.node (o225_0 P) (.node (o353_0 P) (.node (o609_0 P) .nil .nil) (.node (o865_0 P) .nil .nil)) (.node (o481_0 P) (.node (o737_0 P) .nil .nil) (.node (o993_0 P) .nil .nil))))) (.node (o49_0 P) (.node (o81_0 P) (.node (o145_0 P) (.node (o273_0 P) (.node (o529_0 P) .nil .nil) (.node (o785_0 P) .nil .nil)) (.node (o401_0 P) (.node (o657_0 P) .nil .nil) (.node (o913_0 P) .nil .nil))) (.node (o209_0 P) (.node (o337_0 P) (.node (o593_0 P) .nil .nil) (.node (o849_0 P) .nil .nil)) (.node (o465_0 P) (.node (o721_0 P) .nil .nil) (.node (o977_0 P) .nil .nil)))) (.node (o113_0 P) (.node (o177_0 P) (.node (o305_0 P) (.node (o561_0 P) .nil .nil) (.node (o817_0 P) .nil .nil)) (.node (o433_0 P) (.node (o689_0 P) .nil .nil) (.node (o945_0 P) .nil .nil))) (.node (o241_0 P) (.node (o369_0 P) (.node (o625_0 P) .nil .nil) (.node (o881_0 P) .nil .nil)) (.node (o497_0 P) (.node (o753_0 P) .nil .nil) (.node (o1009_0 P) .nil .nil)))))) (.node (o25_0 P) (.node (o41_0 P) (.node (o73_0 P) (.node (o137_0 P) (.node (o265_0 P) (.node (o521_0 P) .nil .nil) (.node (o777_0 P) .nil .nil)) (.node (o393_0 P) (.node (o649_0 P) .nil .nil) (.node (o905_0 P) .nil .nil))) (.node (o201_0 P) (.node (o329_0 P) (.node (o585_0 P) .nil .nil) (.node (o841_0 P) .nil .nil)) (.node (o457_0 P) (.node (o713_0 P) .nil .nil) (.node (o969_0 P) .nil .nil)))) (.node (o105_0 P) (.node (o169_0 P) (.node (o297_0 P) (.node (o553_0 P) .nil .nil) (.node (o809_0 P) .nil .nil)) (.node (o425_0 P) (.node (o681_0 P) .nil .nil) (.node (o937_0 P) .nil .nil))) (.node (o233_0 P) (.node (o361_0 P) (.node (o617_0 P) .nil .nil) (.node (o873_0 P) .nil .nil)) (.node (o489_0 P) (.node (o745_0 P) .nil .nil) (.node (o1001_0 P) .nil .nil))))) (.node (o57_0 P) (.node (o89_0 P) (.node (o153_0 P) (.node (o281_0 P) (.node (o537_0 P) .nil .nil) (.node (o793_0 P) .nil .nil)) (.node (o409_0 P) (.node (o665_0 P) .nil .nil) (.node (o921_0 P) .nil .nil))) (.node (o217_0 P) (.node (o345_0 P) (.node (o601_0 P) .nil .nil) (.node (o857_0 P) .nil .nil)) (.node (o473_0 P) (.node (o729_0 P) .nil .nil) (.node (o985_0 P) .nil .nil)))) (.node (o121_0 P) (.node (o185_0 P) (.node (o313_0 P) (.node (o569_0 P) .nil .nil) (.node (o825_0 P) .nil .nil)) (.node (o441_0 P) (.node (o697_0 P) .nil .nil) (.node (o953_0 P) .nil .nil))) (.node (o249_0 P) (.node (o377_0 P) (.node (o633_0 P) .nil .nil) (.node (o889_0 P) .nil .nil)) (.node (o505_0 P) (.node (o761_0 P) .nil .nil) .nil)))))) (.node (o13_0 P) (.node (o21_0 P) (.node (o37_0 P) (.node (o69_0 P) (.node (o133_0 P) (.node (o261_0 P) (.node (o517_0 P) .nil .nil) (.node (o773_0 P) .nil .nil)) (.node (o389_0 P) (.node (o645_0 P) .nil .nil) (.node (o901_0 P) .nil .nil))) (.node (o197_0 P) (.node (o325_0 P) (.node (o581_0 P) .nil .nil) (.node (o837_0 P) .nil .nil)) (.node (o453_0 P) (.node (o709_0 P) .nil .nil) (.node (o965_0 P) .nil .nil)))) (.node (o101_0 P) (.node (o165_0 P) (.node (o293_0 P) (.node (o549_0 P) .nil .nil) (.node (o805_0 P) .nil .nil)) (.node (o421_0 P) (.node (o677_0 P) .nil .nil) (.node (o933_0 P) .nil .nil))) (.node (o229_0 P) (.node (o357_0 P) (.node (o613_0 P) .nil .nil) (.node (o869_0 P) .nil .nil)) (.node (o485_0 P) (.node (o741_0 P) .nil .nil) (.node (o997_0 P) .nil .nil))))) (.node (o53_0 P) (.node (o85_0 P) (.node (o149_0 P) (.node (o277_0 P) (.node (o533_0 P) .nil .nil) (.node (o789_0 P) .nil .nil)) (.node (o405_0 P) (.node (o661_0 P) .nil .nil) (.node (o917_0 P) .nil .nil))) (.node (o213_0 P) (.node (o341_0 P) (.node (o597_0 P) .nil .nil) (.node (o853_0 P) .nil .nil)) (.node (o469_0 P) (.node (o725_0 P) .nil .nil) (.node (o981_0 P) .nil .nil)))) (.node (o117_0 P) (.node (o181_0 P) (.node (o309_0 P) (.node (o565_0 P) .nil .nil) (.node (o821_0 P) .nil .nil)) (.node (o437_0 P) (.node (o693_0 P) .nil .nil) (.node (o949_0 P) .nil .nil))) (.node (o245_0 P) (.node (o373_0 P) (.node (o629_0 P) .nil .nil) (.node (o885_0 P) .nil .nil)) (.node (o501_0 P) (.node (o757_0 P) .nil .nil) .nil))))) (.node (o29_0 P) (.node (o45_0 P) (.node (o77_0 P) (.node (o141_0 P) (.node (o269_0 P) (.node (o525_0 P) .nil .nil) (.node (o781_0 P) .nil .nil)) (.node (o397_0 P) (.node (o653_0 P) .nil .nil) (.node (o909_0 P) .nil .nil))) (.node (o205_0 P) (.node (o333_0 P) (.node (o589_0 P) .nil .nil) (.node (o845_0 P) .nil .nil)) (.node (o461_0 P) (.node (o717_0 P) .nil .nil) (.node (o973_0 P) .nil .nil)))) (.node (o109_0 P) (.node (o173_0 P) (.node (o301_0 P) (.node (o557_0 P) .nil .nil) (.node (o813_0 P) .nil .nil)) (.node (o429_0 P) (.node (o685_0 P) .nil .nil) (.node (o941_0 P) .nil .nil))) (.node (o237_0 P) (.node (o365_0 P) (.node (o621_0 P) .nil .nil) (.node (o877_0 P) .nil .nil)) (.node (o493_0 P) (.node (o749_0 P) .nil .nil) (.node (o1005_0 P) .nil .nil))))) (.node (o61_0 P) (.node (o93_0 P) (.node (o157_0 P) (.node (o285_0 P) (.node (o541_0 P) .nil .nil) (.node (o797_0 P) .nil .nil)) (.node (o413_0 P) (.node (o669_0 P) .nil .nil) (.node (o925_0 P) .nil .nil))) (.node (o221_0 P) (.node (o349_0 P) (.node (o605_0 P) .nil .nil) (.node (o861_0 P) .nil .nil)) (.node (o477_0 P) (.node (o733_0 P) .nil .nil) (.node (o989_0 P) .nil .nil)))) (.node (o125_0 P) (.node (o189_0 P) (.node (o317_0 P) (.node (o573_0 P) .nil .nil) (.node (o829_0 P) .nil .nil)) (.node (o445_0 P) (.node (o701_0 P) .nil .nil) (.node (o957_0 P) .nil .nil))) (.node (o253_0 P) (.node (o381_0 P) (.node (o637_0 P) .nil .nil) (.node (o893_0 P) .nil .nil)) (.node (o509_0 P) (.node (o765_0 P) .nil .nil) .nil)))))))) (.node (o2_2 P) (.node (o4_0 P) (.node (o8_0 P) (.node (o16_0 P) (.node (o32_0 P) (.node (o64_0 P) (.node (o128_0 P) (.node (o256_0 P) (.node (o512_0 P) .nil .nil) (.node (o768_0 P) .nil .nil)) (.node (o384_0 P) (.node (o640_0 P) .nil .nil) (.node (o896_0 P) .nil .nil))) (.node (o192_0 P) (.node (o320_0 P) (.node (o576_0 P) .nil .nil) (.node (o832_0 P) .nil .nil)) (.node (o448_0 P) (.node (o704_0 P) .nil .nil) (.node (o960_0 P) .nil .nil)))) (.node (o96_0 P) (.node (o160_0 P) (.node (o288_0 P) (.node (o544_0 P) .nil .nil) (.node (o800_0 P) .nil .nil)) (.node (o416_0 P) (.node (o672_0 P) .nil .nil) (.node (o928_0 P) .nil .nil))) (.node (o224_0 P) (.node (o352_0 P) (.node (o608_0 P) .nil .nil) (.node (o864_0 P) .nil .nil)) (.node (o480_0 P) (.node (o736_0 P) .nil .nil) (.node (o992_0 P) .nil .nil))))) (.node (o48_0 P) (.node (o80_0 P) (.node (o144_0 P) (.node (o272_0 P) (.node (o528_0 P) .nil .nil) (.node (o784_0 P) .nil .nil)) (.node (o400_0 P) (.node (o656_0 P) .nil .nil) (.node (o912_0 P) .nil .nil))) (.node (o208_0 P) (.node (o336_0 P) (.node (o592_0 P) .nil .nil) (.node (o848_0 P) .nil .nil)) (.node (o464_0 P) (.node (o720_0 P) .nil .nil) (.node (o976_0 P) .nil .nil)))) (.node (o112_0 P) (.node (o176_0 P) (.node (o304_0 P) (.node (o560_0 P) .nil .nil) (.node (o816_0 P) .nil .nil)) (.node (o432_0 P) (.node (o688_0 P) .nil .nil) (.node (o944_0 P) .nil .nil))) (.node (o240_0 P) (.node (o368_0 P) (.node (o624_0 P) .nil .nil) (.node (o880_0 P) .nil .nil)) (.node (o496_0 P) (.node (o752_0 P) .nil .nil) (.node (o1008_0 P) .nil .nil)))))) (.node (o24_0 P) (.node (o40_3 P) (.node (o72_0 P) (.node (o136_0 P) (.node (o264_0 P) (.node (o520_0 P) .nil .nil) (.node (o776_0 P) .nil .nil)) (.node (o392_0 P) (.node (o648_0 P) .nil .nil) (.node (o904_0 P) .nil .nil))) (.node (o200_0 P) (.node (o328_0 P) (.node (o584_0 P) .nil .nil) (.node (o840_0 P) .nil .nil)) (.node (o456_0 P) (.node (o712_0 P) .nil .nil) (.node (o968_0 P) .nil .nil)))) (.node (o104_0 P) (.node (o168_0 P) (.node (o296_0 P) (.node (o552_0 P) .nil .nil) (.node (o808_0 P) .nil .nil)) (.node (o424_0 P) (.node (o680_0 P) .nil .nil) (.node (o936_0 P) .nil .nil))) (.node (o232_0 P) (.node (o360_0 P) (.node (o616_0 P) .nil .nil) (.node (o872_0 P) .nil .nil)) (.node (o488_0 P) (.node (o744_0 P) .nil .nil) (.node (o1000_0 P) .nil .nil))))) (.node (o56_0 P) (.node (o88_0 P) (.node (o152_0 P) (.node (o280_0 P) (.node (o536_0 P) .nil .nil) (.node (o792_0 P) .nil .nil)) (.node (o408_0 P) (.node (o664_0 P) .nil .nil) (.node (o920_0 P) .nil .nil))) (.node (o216_0 P) (.node (o344_0 P) (.node (o600_0 P) .nil .nil) (.node (o856_0 P) .nil .nil)) (.node (o472_0 P) (.node (o728_0 P) .nil .nil) (.node (o984_0 P) .nil .nil)))) (.node (o120_0 P) (.node (o184_0 P) (.node (o312_0 P) (.node (o568_0 P) .nil .nil) (.node (o824_0 P) .nil .nil)) (.node (o440_0 P) (.node (o696_0 P) .nil .nil) (.node (o952_0 P) .nil .nil))) (.node (o248_0 P) (.node (o376_0 P) (.node (o632_0 P) .nil .nil) (.node (o888_0 P) .nil .nil)) (.node (o504_0 P) (.node (o760_0 P) .nil .nil) .nil)))))) (.node (o12_0 P) (.node (o20_0 P) (.node (o36_0 P) (.node (o68_0 P) (.node (o132_0 P) (.node (o260_0 P) (.node (o516_0 P) .nil .nil) (.node (o772_0 P) .nil .nil)) (.node (o388_0 P) (.node (o644_0 P) .nil .nil) (.node (o900_0 P) .nil .nil))) (.node (o196_0 P) (.node (o324_0 P) (.node (o580_0 P) .nil .nil) (.node (o836_0 P) .nil .nil)) (.node (o452_0 P) (.node (o708_0 P) .nil .nil) (.node (o964_0 P) .nil .nil)))) (.node (o100_0 P) (.node (o164_0 P) (.node (o292_0 P) (.node (o548_0 P) .nil .nil) (.node (o804_0 P) .nil .nil)) (.node (o420_0 P) (.node (o676_0 P) .nil .nil) (.node (o932_0 P) .nil .nil))) (.node (o228_0 P) (.node (o356_0 P) (.node (o612_0 P) .nil .nil) (.node (o868_0 P) .nil .nil)) (.node (o484_0 P) (.node (o740_0 P) .nil .nil) (.node (o996_0 P) .nil .nil))))) (.node (o52_0 P) (.node (o84_0 P) (.node (o148_0 P) (.node (o276_0 P) (.node (o532_0 P) .nil .nil) (.node (o788_0 P) .nil .nil)) (.node (o404_0 P) (.node (o660_0 P) .nil .nil) (.node (o916_0 P) .nil .nil))) (.node (o212_0 P) (.node (o340_0 P) (.node (o596_0 P) .nil .nil) (.node (o852_0 P) .nil .nil)) (.node (o468_0 P) (.node (o724_0 P) .nil .nil) (.node (o980_0 P) .nil .nil)))) (.node (o116_0 P) (.node (o180_0 P) (.node (o308_0 P) (.node (o564_0 P) .nil .nil) (.node (o820_0 P) .nil .nil)) (.node (o436_0 P) (.node (o692_0 P) .nil .nil) (.node (o948_0 P) .nil .nil))) (.node (o244_0 P) (.node (o372_0 P) (.node (o628_0 P) .nil .nil) (.node (o884_0 P) .nil .nil)) (.node (o500_0 P) (.node (o756_0 P) .nil .nil) .nil))))) (.node (o28_0 P) (.node (o44_0 P) (.node (o76_0 P) (.node (o140_0 P) (.node (o268_0 P) (.node (o524_0 P) .nil .nil) (.node (o780_0 P) .nil .nil)) (.node (o396_0 P) (.node (o652_0 P) .nil .nil) (.node (o908_0 P) .nil .nil))) (.node (o204_0 P) (.node (o332_0 P) (.node (o588_0 P) .nil .nil) (.node (o844_0 P) .nil .nil)) (.node (o460_0 P) (.node (o716_0 P) .nil .nil) (.node (o972_0 P) .nil .nil)))) (.node (o108_0 P) (.node (o172_0 P) (.node (o300_0 P) (.node (o556_0 P) .nil .nil) (.node (o812_0 P) .nil .nil)) (.node (o428_0 P) (.node (o684_0 P) .nil .nil) (.node (o940_0 P) .nil .nil))) (.node (o236_0 P) (.node (o364_0 P) (.node (o620_0 P) .nil .nil) (.node (o876_0 P) .nil .nil)) (.node (o492_0 P) (.node (o748_0 P) .nil .nil) (.node (o1004_0 P) .nil .nil))))) (.node (o60_0 P) (.node (o92_0 P) (.node (o156_0 P) (.node (o284_0 P) (.node (o540_0 P) .nil .nil) (.node (o796_0 P) .nil .nil)) (.node (o412_0 P) (.node (o668_0 P) .nil .nil) (.node (o924_0 P) .nil .nil))) (.node (o220_0 P) (.node (o348_0 P) (.node (o604_0 P) .nil .nil) (.node (o860_0 P) .nil .nil)) (.node (o476_0 P) (.node (o732_0 P) .nil .nil) (.node (o988_0 P) .nil .nil)))) (.node (o124_0 P) (.node (o188_0 P) (.node (o316_0 P) (.node (o572_0 P) .nil .nil) (.node (o828_0 P) .nil .nil)) (.node (o444_0 P) (.node (o700_0 P) .nil .nil) (.node (o956_0 P) .nil .nil))) (.node (o252_0 P) (.node (o380_0 P) (.node (o636_0 P) .nil .nil) (.node (o892_0 P) .nil .nil)) (.node (o508_0 P) (.node (o764_0 P) .nil .nil) .nil))))))) (.node (o6_0 P) (.node (o10_0 P) (.node (o18_0 P) (.node (o34_0 P) (.node (o66_0 P) (.node (o130_0 P) (.node (o258_0 P) (.node (o514_0 P) .nil .nil) (.node (o770_0 P) .nil .nil)) (.node (o386_0 P) (.node (o642_0 P) .nil .nil) (.node (o898_0 P) .nil .nil))) (.node (o194_0 P) (.node (o322_0 P) (.node (o578_0 P) .nil .nil) (.node (o834_0 P) .nil .nil)) (.node (o450_0 P) (.node (o706_0 P) .nil .nil) (.node (o962_0 P) .nil .nil)))) (.node (o98_0 P) (.node (o162_0 P) (.node (o290_0 P) (.node (o546_0 P) .nil .nil) (.node (o802_0 P) .nil .nil)) (.node (o418_0 P) (.node (o674_0 P) .nil .nil) (.node (o930_0 P) .nil .nil))) (.node (o226_0 P) (.node (o354_0 P) (.node (o610_0 P) .nil .nil) (.node (o866_0 P) .nil .nil)) (.node (o482_0 P) (.node (o738_0 P) .nil .nil) (.node (o994_0 P) .nil .nil))))) (.node (o50_0 P) (.node (o82_0 P) (.node (o146_0 P) (.node (o274_0 P) (.node (o530_0 P) .nil .nil) (.node (o786_0 P) .nil .nil)) (.node (o402_0 P) (.node (o658_0 P) .nil .nil) (.node (o914_0 P) .nil .nil))) (.node (o210_0 P) (.node (o338_0 P) (.node (o594_0 P) .nil .nil) (.node (o850_0 P) .nil .nil)) (.node (o466_0 P) (.node (o722_0 P) .nil .nil) (.node (o978_0 P) .nil .nil)))) (.node (o114_0 P) (.node (o178_0 P) (.node (o306_0 P) (.node (o562_0 P) .nil .nil) (.node (o818_0 P) .nil .nil)) (.node (o434_0 P) (.node (o690_0 P) .nil .nil) (.node (o946_0 P) .nil .nil))) (.node (o242_0 P) (.node (o370_0 P) (.node (o626_0 P) .nil .nil) (.node (o882_0 P) .nil .nil)) (.node (o498_0 P) (.node (o754_0 P) .nil .nil) (.node (o1010_0 P) .nil .nil)))))) (.node (o26_0 P) (.node (o42_0 P) (.node (o74_0 P) (.node (o138_0 P) (.node (o266_0 P) (.node (o522_0 P) .nil .nil) (.node (o778_0 P) .nil .nil)) (.node (o394_0 P) (.node (o650_0 P) .nil .nil) (.node (o906_0 P) .nil .nil))) (.node (o202_0 P) (.node (o330_0 P) (.node (o586_0 P) .nil .nil) (.node (o842_0 P) .nil .nil)) (.node (o458_0 P) (.node (o714_0 P) .nil .nil) (.node (o970_0 P) .nil .nil)))) (.node (o106_0 P) (.node (o170_0 P) (.node (o298_0 P) (.node (o554_0 P) .nil .nil) (.node (o810_0 P) .nil .nil)) (.node (o426_0 P) (.node (o682_0 P) .nil .nil) (.node (o938_0 P) .nil .nil))) (.node (o234_0 P) (.node (o362_0 P) (.node (o618_0 P) .nil .nil) (.node (o874_0 P) .nil .nil)) (.node (o490_0 P) (.node (o746_0 P) .nil .nil) (.node (o1002_0 P) .nil .nil))))) (.node (o58_0 P) (.node (o90_0 P) (.node (o154_0 P) (.node (o282_0 P) (.node (o538_0 P) .nil .nil) (.node (o794_0 P) .nil .nil)) (.node (o410_0 P) (.node (o666_0 P) .nil .nil) (.node (o922_0 P) .nil .nil))) (.node (o218_0 P) (.node (o346_0 P) (.node (o602_0 P) .nil .nil) (.node (o858_0 P) .nil .nil)) (.node (o474_0 P) (.node (o730_0 P) .nil .nil) (.node (o986_0 P) .nil .nil)))) (.node (o122_0 P) (.node (o186_0 P) (.node (o314_0 P) (.node (o570_0 P) .nil .nil) (.node (o826_0 P) .nil .nil)) (.node (o442_0 P) (.node (o698_0 P) .nil .nil) (.node (o954_0 P) .nil .nil))) (.node (o250_0 P) (.node (o378_0 P) (.node (o634_0 P) .nil .nil) (.node (o890_0 P) .nil .nil)) (.node (o506_0 P) (.node (o762_0 P) .nil .nil) .nil)))))) (.node (o14_0 P) (.node (o22_0 P) (.node (o38_0 P) (.node (o70_0 P) (.node (o134_0 P) (.node (o262_0 P) (.node (o518_0 P) .nil .nil) (.node (o774_0 P) .nil .nil)) (.node (o390_0 P) (.node (o646_0 P) .nil .nil) (.node (o902_0 P) .nil .nil))) (.node (o198_0 P) (.node (o326_0 P) (.node (o582_0 P) .nil .nil) (.node (o838_0 P) .nil .nil)) (.node (o454_0 P) (.node (o710_0 P) .nil .nil) (.node (o966_0 P) .nil .nil)))) (.node (o102_0 P) (.node (o166_0 P) (.node (o294_0 P) (.node (o550_0 P) .nil .nil) (.node (o806_0 P) .nil .nil)) (.node (o422_0 P) (.node (o678_0 P) .nil .nil) (.node (o934_0 P) .nil .nil))) (.node (o230_0 P) (.node (o358_0 P) (.node (o614_0 P) .nil .nil) (.node (o870_0 P) .nil .nil)) (.node (o486_0 P) (.node (o742_0 P) .nil .nil) (.node (o998_0 P) .nil .nil))))) (.node (o54_0 P) (.node (o86_0 P) (.node (o150_0 P) (.node (o278_0 P) (.node (o534_0 P) .nil .nil) (.node (o790_0 P) .nil .nil)) (.node (o406_0 P) (.node (o662_0 P) .nil .nil) (.node (o918_0 P) .nil .nil))) (.node (o214_0 P) (.node (o342_0 P) (.node (o598_0 P) .nil .nil) (.node (o854_0 P) .nil .nil)) (.node (o470_0 P) (.node (o726_0 P) .nil .nil) (.node (o982_0 P) .nil .nil)))) (.node (o118_0 P) (.node (o182_0 P) (.node (o310_0 P) (.node (o566_0 P) .nil .nil) (.node (o822_0 P) .nil .nil)) (.node (o438_0 P) (.node (o694_0 P) .nil .nil) (.node (o950_0 P) .nil .nil))) (.node (o246_0 P) (.node (o374_0 P) (.node (o630_0 P) .nil .nil) (.node (o886_0 P) .nil .nil)) (.node (o502_0 P) (.node (o758_0 P) .nil .nil) .nil))))) (.node (o30_0 P) (.node (o46_0 P) (.node (o78_0 P) (.node (o142_0 P) (.node (o270_0 P) (.node (o526_0 P) .nil .nil) (.node (o782_0 P) .nil .nil)) (.node (o398_0 P) (.node (o654_0 P) .nil .nil) (.node (o910_0 P) .nil .nil))) (.node (o206_0 P) (.node (o334_0 P) (.node (o590_0 P) .nil .nil) (.node (o846_0 P) .nil .nil)) (.node (o462_0 P) (.node (o718_0 P) .nil .nil) (.node (o974_0 P) .nil .nil)))) (.node (o110_0 P) (.node (o174_0 P) (.node (o302_0 P) (.node (o558_0 P) .nil .nil) (.node (o814_0 P) .nil .nil)) (.node (o430_0 P) (.node (o686_0 P) .nil .nil) (.node (o942_0 P) .nil .nil))) (.node (o238_0 P) (.node (o366_0 P) (.node (o622_0 P) .nil .nil) (.node (o878_0 P) .nil .nil)) (.node (o494_0 P) (.node (o750_0 P) .nil .nil) (.node (o1006_0 P) .nil .nil))))) (.node (o62_0 P) (.node (o94_0 P) (.node (o158_0 P) (.node (o286_0 P) (.node (o542_0 P) .nil .nil) (.node (o798_0 P) .nil .nil)) (.node (o414_0 P) (.node (o670_0 P) .nil .nil) (.node (o926_0 P) .nil .nil))) (.node (o222_0 P) (.node (o350_0 P) (.node (o606_0 P) .nil .nil) (.node (o862_0 P) .nil .nil)) (.node (o478_0 P) (.node (o734_0 P) .nil .nil) (.node (o990_0 P) .nil .nil)))) (.node (o126_0 P) (.node (o190_0 P) (.node (o318_0 P) (.node (o574_0 P) .nil .nil) (.node (o830_0 P) .nil .nil)) (.node (o446_0 P) (.node (o702_0 P) .nil .nil) (.node (o958_0 P) .nil .nil))) (.node (o254_0 P) (.node (o382_0 P) (.node (o638_0 P) .nil .nil) (.node (o894_0 P) .nil .nil)) (.node (o510_0 P) (.node (o766_0 P) .nil .nil) .nil)))))))))
def o3_3 (P : Params) : Obj := ⟨(.type "dict"), none, (.dict #[de P "__name__" 165 (vs "rlp.utils" 1563), de P "__doc__" 166 .none, de P "__package__" 167 .none, de P "__loader__" 168 (.builtin "__main__.__loader__#opaque"), de P "__spec__" 169 .none, de P "__annotations__" 170 (vr 6), de P "__builtins__" 171 (vr 4), de P "__file__" 173 (vs "/claim/cut.py" 172), de P "__cached__" 174 .none, de P "pack_struct" 313 (.builtin "_struct.pack"), de P "unpack" 316 (.builtin "_struct.unpack"), de P "_wall" 329 (vr 49), de P "frozendict" 351 (vr 59), de P "ExtType" 407 (vr 104), de P "Timestamp" 555 (vr 207), de P "DEFAULT_RECURSE_LIMIT" 559 (.int 1024 558), de P "_check_type_strict" 568 (vr 218), de P "_whence" 578 (vr 225), de P "_index" 586 (vr 232), de P "UnsupportedOperation" 608 (vr 242), de P "IOBase" 640 (vr 262), de P "BufferedIOBase" 658 (vr 277), de P "TextIOBase" 676 (vr 289), de P "BytesIO" 938 (vr 519), de P "StringIO" 1225 (vr 766), de P "Packer" 1394 (vr 879), de P "RLPException" 1416 (vr 893), de P "EncodingError" 1444 (vr 915), de P "SerializationError" 1472 (vr 936), de P "ListSerializationError" 1503 (vr 958), de P "DeserializationError" 1531 (vr 979), de P "ListDeserializationError" 1562 (vr 1001), de P "ALL_BYTES" 2600 (vr 1016)] 33), #[]⟩
def o1005_1 (P : Params) : Obj := ⟨(.type "range_iterator"), none, (.fields #[(vi 256), (vi 0), (vi 1)]), #[]⟩
def o1009_1 (P : Params) : Obj := ⟨(.type "frame"), none, (.dict #[de P ".0" 1573 (vr 1005), de P "i" 1577 (.int 255 2596)] 2), #[]⟩
def o1011_1 (P : Params) : Obj := ⟨(.type "list"), none, (.seq #[(.bytes #[0] 1579), (.bytes #[1] 1583), (.bytes #[2] 1587), (.bytes #[3] 1591), (.bytes #[4] 1595), (.bytes #[5] 1599), (.bytes #[6] 1603), (.bytes #[7] 1607), (.bytes #[8] 1611), (.bytes #[9] 1615), (.bytes #[10] 1619), (.bytes #[11] 1623), (.bytes #[12] 1627), (.bytes #[13] 1631), (.bytes #[14] 1635), (.bytes #[15] 1639), (.bytes #[16] 1643), (.bytes #[17] 1647), (.bytes #[18] 1651), (.bytes #[19] 1655), (.bytes #[20] 1659), (.bytes #[21] 1663), (.bytes #[22] 1667), (.bytes #[23] 1671), (.bytes #[24] 1675), (.bytes #[25] 1679), (.bytes #[26] 1683), (.bytes #[27] 1687), (.bytes #[28] 1691), (.bytes #[29] 1695), (.bytes #[30] 1699), (.bytes #[31] 1703), (.bytes #[32] 1707), (.bytes #[33] 1711), (.bytes #[34] 1715), (.bytes #[35] 1719), (.bytes #[36] 1723), (.bytes #[37] 1727), (.bytes #[38] 1731), (.bytes #[39] 1735), (.bytes #[40] 1739), (.bytes #[41] 1743), (.bytes #[42] 1747), (.bytes #[43] 1751), (.bytes #[44] 1755), (.bytes #[45] 1759), (.bytes #[46] 1763), (.bytes #[47] 1767), (.bytes #[48] 1771), (.bytes #[49] 1775), (.bytes #[50] 1779), (.bytes #[51] 1783), (.bytes #[52] 1787), (.bytes #[53] 1791), (.bytes #[54] 1795), (.bytes #[55] 1799), (.bytes #[56] 1803), (.bytes #[57] 1807), (.bytes #[58] 1811), (.bytes #[59] 1815), (.bytes #[60] 1819), (.bytes #[61] 1823), (.bytes #[62] 1827), (.bytes #[63] 1831), (.bytes #[64] 1835), (.bytes #[65] 1839), (.bytes #[66] 1843), (.bytes #[67] 1847), (.bytes #[68] 1851), (.bytes #[69] 1855), (.bytes #[70] 1859), (.bytes #[71] 1863), (.bytes #[72] 1867), (.bytes #[73] 1871), (.bytes #[74] 1875), (.bytes #[75] 1879), (.bytes #[76] 1883), (.bytes #[77] 1887), (.bytes #[78] 1891), (.bytes #[79] 1895), (.bytes #[80] 1899), (.bytes #[81] 1903), (.bytes #[82] 1907), (.bytes #[83] 1911), (.bytes #[84] 1915), (.bytes #[85] 1919), (.bytes #[86] 1923), (.bytes #[87] 1927), (.bytes #[88] 1931), (.bytes #[89] 1935), (.bytes #[90] 1939), (.bytes #[91] 1943), (.bytes #[92] 1947), (.bytes #[93] 1951), (.bytes #[94] 1955), (.bytes #[95] 1959), (.bytes #[96] 1963), (.bytes #[97] 1967), (.bytes #[98] 1971), (.bytes #[99] 1975), (.bytes #[100] 1979), (.bytes #[101] 1983), (.bytes #[102] 1987), (.bytes #[103] 1991), (.bytes #[104] 1995), (.bytes #[105] 1999), (.bytes #[106] 2003), (.bytes #[107] 2007), (.bytes #[108] 2011), (.bytes #[109] 2015), (.bytes #[110] 2019), (.bytes #[111] 2023), (.bytes #[112] 2027), (.bytes #[113] 2031), (.bytes #[114] 2035), (.bytes #[115] 2039), (.bytes #[116] 2043), (.bytes #[117] 2047), (.bytes #[118] 2051), (.bytes #[119] 2055), (.bytes #[120] 2059), (.bytes #[121] 2063), (.bytes #[122] 2067), (.bytes #[123] 2071), (.bytes #[124] 2075), (.bytes #[125] 2079), (.bytes #[126] 2083), (.bytes #[127] 2087), (.bytes #[128] 2091), (.bytes #[129] 2095), (.bytes #[130] 2099), (.bytes #[131] 2103), (.bytes #[132] 2107), (.bytes #[133] 2111), (.bytes #[134] 2115), (.bytes #[135] 2119), (.bytes #[136] 2123), (.bytes #[137] 2127), (.bytes #[138] 2131), (.bytes #[139] 2135), (.bytes #[140] 2139), (.bytes #[141] 2143), (.bytes #[142] 2147), (.bytes #[143] 2151), (.bytes #[144] 2155), (.bytes #[145] 2159), (.bytes #[146] 2163), (.bytes #[147] 2167), (.bytes #[148] 2171), (.bytes #[149] 2175), (.bytes #[150] 2179), (.bytes #[151] 2183), (.bytes #[152] 2187), (.bytes #[153] 2191), (.bytes #[154] 2195), (.bytes #[155] 2199), (.bytes #[156] 2203), (.bytes #[157] 2207), (.bytes #[158] 2211), (.bytes #[159] 2215), (.bytes #[160] 2219), (.bytes #[161] 2223), (.bytes #[162] 2227), (.bytes #[163] 2231), (.bytes #[164] 2235), (.bytes #[165] 2239), (.bytes #[166] 2243), (.bytes #[167] 2247), (.bytes #[168] 2251), (.bytes #[169] 2255), (.bytes #[170] 2259), (.bytes #[171] 2263), (.bytes #[172] 2267), (.bytes #[173] 2271), (.bytes #[174] 2275), (.bytes #[175] 2279), (.bytes #[176] 2283), (.bytes #[177] 2287), (.bytes #[178] 2291), (.bytes #[179] 2295), (.bytes #[180] 2299), (.bytes #[181] 2303), (.bytes #[182] 2307), (.bytes #[183] 2311), (.bytes #[184] 2315), (.bytes #[185] 2319), (.bytes #[186] 2323), (.bytes #[187] 2327), (.bytes #[188] 2331), (.bytes #[189] 2335), (.bytes #[190] 2339), (.bytes #[191] 2343), (.bytes #[192] 2347), (.bytes #[193] 2351), (.bytes #[194] 2355), (.bytes #[195] 2359), (.bytes #[196] 2363), (.bytes #[197] 2367), (.bytes #[198] 2371), (.bytes #[199] 2375), (.bytes #[200] 2379), (.bytes #[201] 2383), (.bytes #[202] 2387), (.bytes #[203] 2391), (.bytes #[204] 2395), (.bytes #[205] 2399), (.bytes #[206] 2403), (.bytes #[207] 2407), (.bytes #[208] 2411), (.bytes #[209] 2415), (.bytes #[210] 2419), (.bytes #[211] 2423), (.bytes #[212] 2427), (.bytes #[213] 2431), (.bytes #[214] 2435), (.bytes #[215] 2439), (.bytes #[216] 2443), (.bytes #[217] 2447), (.bytes #[218] 2451), (.bytes #[219] 2455), (.bytes #[220] 2459), (.bytes #[221] 2463), (.bytes #[222] 2467), (.bytes #[223] 2471), (.bytes #[224] 2475), (.bytes #[225] 2479), (.bytes #[226] 2483), (.bytes #[227] 2487), (.bytes #[228] 2491), (.bytes #[229] 2495), (.bytes #[230] 2499), (.bytes #[231] 2503), (.bytes #[232] 2507), (.bytes #[233] 2511), (.bytes #[234] 2515), (.bytes #[235] 2519), (.bytes #[236] 2523), (.bytes #[237] 2527), (.bytes #[238] 2531), (.bytes #[239] 2535), (.bytes #[240] 2539), (.bytes #[241] 2543), (.bytes #[242] 2547), (.bytes #[243] 2551), (.bytes #[244] 2555), (.bytes #[245] 2559), (.bytes #[246] 2563), (.bytes #[247] 2567), (.bytes #[248] 2571), (.bytes #[249] 2575), (.bytes #[250] 2579), (.bytes #[251] 2583), (.bytes #[252] 2587), (.bytes #[253] 2591), (.bytes #[254] 2595), (.bytes #[255] 2599)] 258), #[]⟩
def o1012_0 (P : Params) : Obj := ⟨(.type "tuple"), none, (.seq #[] 0), #[]⟩
def o1013_0 (P : Params) : Obj := ⟨(.type "StopIteration"), none, (.fields #[(vr 1012), .none, .none, .none, (.bool false), .none]), #[]⟩
def o1014_0 (P : Params) : Obj := ⟨(.type "tuple"), none, (.seq #[] 0), #[]⟩
def o1015_0 (P : Params) : Obj := ⟨(.type "StopIteration"), none, (.fields #[(vr 1014), .none, .none, .none, (.bool false), .none]), #[]⟩
def o1016_0 (P : Params) : Obj := ⟨(.type "tuple"), none, (.seq #[(.bytes #[0] 1579), (.bytes #[1] 1583), (.bytes #[2] 1587), (.bytes #[3] 1591), (.bytes #[4] 1595), (.bytes #[5] 1599), (.bytes #[6] 1603), (.bytes #[7] 1607), (.bytes #[8] 1611), (.bytes #[9] 1615), (.bytes #[10] 1619), (.bytes #[11] 1623), (.bytes #[12] 1627), (.bytes #[13] 1631), (.bytes #[14] 1635), (.bytes #[15] 1639), (.bytes #[16] 1643), (.bytes #[17] 1647), (.bytes #[18] 1651), (.bytes #[19] 1655), (.bytes #[20] 1659), (.bytes #[21] 1663), (.bytes #[22] 1667), (.bytes #[23] 1671), (.bytes #[24] 1675), (.bytes #[25] 1679), (.bytes #[26] 1683), (.bytes #[27] 1687), (.bytes #[28] 1691), (.bytes #[29] 1695), (.bytes #[30] 1699), (.bytes #[31] 1703), (.bytes #[32] 1707), (.bytes #[33] 1711), (.bytes #[34] 1715), (.bytes #[35] 1719), (.bytes #[36] 1723), (.bytes #[37] 1727), (.bytes #[38] 1731), (.bytes #[39] 1735), (.bytes #[40] 1739), (.bytes #[41] 1743), (.bytes #[42] 1747), (.bytes #[43] 1751), (.bytes #[44] 1755), (.bytes #[45] 1759), (.bytes #[46] 1763), (.bytes #[47] 1767), (.bytes #[48] 1771), (.bytes #[49] 1775), (.bytes #[50] 1779), (.bytes #[51] 1783), (.bytes #[52] 1787), (.bytes #[53] 1791), (.bytes #[54] 1795), (.bytes #[55] 1799), (.bytes #[56] 1803), (.bytes #[57] 1807), (.bytes #[58] 1811), (.bytes #[59] 1815), (.bytes #[60] 1819), (.bytes #[61] 1823), (.bytes #[62] 1827), (.bytes #[63] 1831), (.bytes #[64] 1835), (.bytes #[65] 1839), (.bytes #[66] 1843), (.bytes #[67] 1847), (.bytes #[68] 1851), (.bytes #[69] 1855), (.bytes #[70] 1859), (.bytes #[71] 1863), (.bytes #[72] 1867), (.bytes #[73] 1871), (.bytes #[74] 1875), (.bytes #[75] 1879), (.bytes #[76] 1883), (.bytes #[77] 1887), (.bytes #[78] 1891), (.bytes #[79] 1895), (.bytes #[80] 1899), (.bytes #[81] 1903), (.bytes #[82] 1907), (.bytes #[83] 1911), (.bytes #[84] 1915), (.bytes #[85] 1919), (.bytes #[86] 1923), (.bytes #[87] 1927), (.bytes #[88] 1931), (.bytes #[89] 1935), (.bytes #[90] 1939), (.bytes #[91] 1943), (.bytes #[92] 1947), (.bytes #[93] 1951), (.bytes #[94] 1955), (.bytes #[95] 1959), (.bytes #[96] 1963), (.bytes #[97] 1967), (.bytes #[98] 1971), (.bytes #[99] 1975), (.bytes #[100] 1979), (.bytes #[101] 1983), (.bytes #[102] 1987), (.bytes #[103] 1991), (.bytes #[104] 1995), (.bytes #[105] 1999), (.bytes #[106] 2003), (.bytes #[107] 2007), (.bytes #[108] 2011), (.bytes #[109] 2015), (.bytes #[110] 2019), (.bytes #[111] 2023), (.bytes #[112] 2027), (.bytes #[113] 2031), (.bytes #[114] 2035), (.bytes #[115] 2039), (.bytes #[116] 2043), (.bytes #[117] 2047), (.bytes #[118] 2051), (.bytes #[119] 2055), (.bytes #[120] 2059), (.bytes #[121] 2063), (.bytes #[122] 2067), (.bytes #[123] 2071), (.bytes #[124] 2075), (.bytes #[125] 2079), (.bytes #[126] 2083), (.bytes #[127] 2087), (.bytes #[128] 2091), (.bytes #[129] 2095), (.bytes #[130] 2099), (.bytes #[131] 2103), (.bytes #[132] 2107), (.bytes #[133] 2111), (.bytes #[134] 2115), (.bytes #[135] 2119), (.bytes #[136] 2123), (.bytes #[137] 2127), (.bytes #[138] 2131), (.bytes #[139] 2135), (.bytes #[140] 2139), (.bytes #[141] 2143), (.bytes #[142] 2147), (.bytes #[143] 2151), (.bytes #[144] 2155), (.bytes #[145] 2159), (.bytes #[146] 2163), (.bytes #[147] 2167), (.bytes #[148] 2171), (.bytes #[149] 2175), (.bytes #[150] 2179), (.bytes #[151] 2183), (.bytes #[152] 2187), (.bytes #[153] 2191), (.bytes #[154] 2195), (.bytes #[155] 2199), (.bytes #[156] 2203), (.bytes #[157] 2207), (.bytes #[158] 2211), (.bytes #[159] 2215), (.bytes #[160] 2219), (.bytes #[161] 2223), (.bytes #[162] 2227), (.bytes #[163] 2231), (.bytes #[164] 2235), (.bytes #[165] 2239), (.bytes #[166] 2243), (.bytes #[167] 2247), (.bytes #[168] 2251), (.bytes #[169] 2255), (.bytes #[170] 2259), (.bytes #[171] 2263), (.bytes #[172] 2267), (.bytes #[173] 2271), (.bytes #[174] 2275), (.bytes #[175] 2279), (.bytes #[176] 2283), (.bytes #[177] 2287), (.bytes #[178] 2291), (.bytes #[179] 2295), (.bytes #[180] 2299), (.bytes #[181] 2303), (.bytes #[182] 2307), (.bytes #[183] 2311), (.bytes #[184] 2315), (.bytes #[185] 2319), (.bytes #[186] 2323), (.bytes #[187] 2327), (.bytes #[188] 2331), (.bytes #[189] 2335), (.bytes #[190] 2339), (.bytes #[191] 2343), (.bytes #[192] 2347), (.bytes #[193] 2351), (.bytes #[194] 2355), (.bytes #[195] 2359), (.bytes #[196] 2363), (.bytes #[197] 2367), (.bytes #[198] 2371), (.bytes #[199] 2375), (.bytes #[200] 2379), (.bytes #[201] 2383), (.bytes #[202] 2387), (.bytes #[203] 2391), (.bytes #[204] 2395), (.bytes #[205] 2399), (.bytes #[206] 2403), (.bytes #[207] 2407), (.bytes #[208] 2411), (.bytes #[209] 2415), (.bytes #[210] 2419), (.bytes #[211] 2423), (.bytes #[212] 2427), (.bytes #[213] 2431), (.bytes #[214] 2435), (.bytes #[215] 2439), (.bytes #[216] 2443), (.bytes #[217] 2447), (.bytes #[218] 2451), (.bytes #[219] 2455), (.bytes #[220] 2459), (.bytes #[221] 2463), (.bytes #[222] 2467), (.bytes #[223] 2471), (.bytes #[224] 2475), (.bytes #[225] 2479), (.bytes #[226] 2483), (.bytes #[227] 2487), (.bytes #[228] 2491), (.bytes #[229] 2495), (.bytes #[230] 2499), (.bytes #[231] 2503), (.bytes #[232] 2507), (.bytes #[233] 2511), (.bytes #[234] 2515), (.bytes #[235] 2519), (.bytes #[236] 2523), (.bytes #[237] 2527), (.bytes #[238] 2531), (.bytes #[239] 2535), (.bytes #[240] 2539), (.bytes #[241] 2543), (.bytes #[242] 2547), (.bytes #[243] 2551), (.bytes #[244] 2555), (.bytes #[245] 2559), (.bytes #[246] 2563), (.bytes #[247] 2567), (.bytes #[248] 2571), (.bytes #[249] 2575), (.bytes #[250] 2579), (.bytes #[251] 2583), (.bytes #[252] 2587), (.bytes #[253] 2591), (.bytes #[254] 2595), (.bytes #[255] 2599)] 0), #[]⟩
def trD (P : Params) : BT := (.node (o0_0 P) (.node (o1_0 P) (.node (o3_3 P) (.node (o7_0 P) (.node (o15_0 P) (.node (o31_0 P) (.node (o63_0 P) (.node (o127_0 P) (.node (o255_0 P) (.node (o511_0 P) .nil .nil) (.node (o767_0 P) .nil .nil)) (.node (o383_0 P) (.node (o639_0 P) .nil .nil) (.node (o895_0 P) .nil .nil))) (.node (o191_0 P) (.node (o319_0 P) (.node (o575_0 P) .nil .nil) (.node (o831_0 P) .nil .nil)) (.node (o447_0 P) (.node (o703_0 P) .nil .nil) (.node (o959_0 P) .nil .nil)))) (.node (o95_0 P) (.node (o159_0 P) (.node (o287_0 P) (.node (o543_0 P) .nil .nil) (.node (o799_0 P) .nil .nil)) (.node (o415_0 P) (.node (o671_0 P) .nil .nil) (.node (o927_0 P) .nil .nil))) (.node (o223_0 P) (.node (o351_0 P) (.node (o607_0 P) .nil .nil) (.node (o863_0 P) .nil .nil)) (.node (o479_0 P) (.node (o735_0 P) .nil .nil) (.node (o991_0 P) .nil .nil))))) (.node (o47_0 P) (.node (o79_0 P) (.node (o143_0 P) (.node (o271_0 P) (.node (o527_0 P) .nil .nil) (.node (o783_0 P) .nil .nil)) (.node (o399_0 P) (.node (o655_0 P) .nil .nil) (.node (o911_0 P) .nil .nil))) (.node (o207_0 P) (.node (o335_0 P) (.node (o591_0 P) .nil .nil) (.node (o847_0 P) .nil .nil)) (.node (o463_0 P) (.node (o719_0 P) .nil .nil) (.node (o975_0 P) .nil .nil)))) (.node (o111_0 P) (.node (o175_0 P) (.node (o303_0 P) (.node (o559_0 P) .nil .nil) (.node (o815_0 P) .nil .nil)) (.node (o431_0 P) (.node (o687_0 P) .nil .nil) (.node (o943_0 P) .nil .nil))) (.node (o239_0 P) (.node (o367_0 P) (.node (o623_0 P) .nil .nil) (.node (o879_0 P) .nil .nil)) (.node (o495_0 P) (.node (o751_0 P) .nil .nil) (.node (o1007_0 P) .nil .nil)))))) (.node (o23_0 P) (.node (o39_0 P) (.node (o71_0 P) (.node (o135_0 P) (.node (o263_0 P) (.node (o519_0 P) .nil .nil) (.node (o775_0 P) .nil .nil)) (.node (o391_0 P) (.node (o647_0 P) .nil .nil) (.node (o903_0 P) .nil .nil))) (.node (o199_0 P) (.node (o327_0 P) (.node (o583_0 P) .nil .nil) (.node (o839_0 P) .nil .nil)) (.node (o455_0 P) (.node (o711_0 P) .nil .nil) (.node (o967_0 P) .nil .nil)))) (.node (o103_0 P) (.node (o167_0 P) (.node (o295_0 P) (.node (o551_0 P) .nil .nil) (.node (o807_0 P) .nil .nil)) (.node (o423_0 P) (.node (o679_0 P) .nil .nil) (.node (o935_0 P) .nil .nil))) (.node (o231_0 P) (.node (o359_0 P) (.node (o615_0 P) .nil .nil) (.node (o871_0 P) .nil .nil)) (.node (o487_0 P) (.node (o743_0 P) .nil .nil) (.node (o999_0 P) .nil .nil))))) (.node (o55_0 P) (.node (o87_0 P) (.node (o151_0 P) (.node (o279_0 P) (.node (o535_0 P) .nil .nil) (.node (o791_0 P) .nil .nil)) (.node (o407_0 P) (.node (o663_0 P) .nil .nil) (.node (o919_0 P) .nil .nil))) (.node (o215_0 P) (.node (o343_0 P) (.node (o599_0 P) .nil .nil) (.node (o855_0 P) .nil .nil)) (.node (o471_0 P) (.node (o727_0 P) .nil .nil) (.node (o983_0 P) .nil .nil)))) (.node (o119_0 P) (.node (o183_0 P) (.node (o311_0 P) (.node (o567_0 P) .nil .nil) (.node (o823_0 P) .nil .nil)) (.node (o439_0 P) (.node (o695_0 P) .nil .nil) (.node (o951_0 P) .nil .nil))) (.node (o247_0 P) (.node (o375_0 P) (.node (o631_0 P) .nil .nil) (.node (o887_0 P) .nil .nil)) (.node (o503_0 P) (.node (o759_0 P) .nil .nil) (.node (o1015_0 P) .nil .nil))))))) (.node (o11_0 P) (.node (o19_0 P) (.node (o35_0 P) (.node (o67_0 P) (.node (o131_0 P) (.node (o259_0 P) (.node (o515_0 P) .nil .nil) (.node (o771_0 P) .nil .nil)) (.node (o387_0 P) (.node (o643_0 P) .nil .nil) (.node (o899_0 P) .nil .nil))) (.node (o195_0 P) (.node (o323_0 P) (.node (o579_0 P) .nil .nil) (.node (o835_0 P) .nil .nil)) (.node (o451_0 P) (.node (o707_0 P) .nil .nil) (.node (o963_0 P) .nil .nil)))) (.node (o99_0 P) (.node (o163_0 P) (.node (o291_0 P) (.node (o547_0 P) .nil .nil) (.node (o803_0 P) .nil .nil)) (.node (o419_0 P) (.node (o675_0 P) .nil .nil) (.node (o931_0 P) .nil .nil))) (.node (o227_0 P) (.node (o355_0 P) (.node (o611_0 P) .nil .nil) (.node (o867_0 P) .nil .nil)) (.node (o483_0 P) (.node (o739_0 P) .nil .nil) (.node (o995_0 P) .nil .nil))))) (.node (o51_0 P) (.node (o83_0 P) (.node (o147_0 P) (.node (o275_0 P) (.node (o531_0 P) .nil .nil) (.node (o787_0 P) .nil .nil)) (.node (o403_0 P) (.node (o659_0 P) .nil .nil) (.node (o915_0 P) .nil .nil))) (.node (o211_0 P) (.node (o339_0 P) (.node (o595_0 P) .nil .nil) (.node (o851_0 P) .nil .nil)) (.node (o467_0 P) (.node (o723_0 P) .nil .nil) (.node (o979_0 P) .nil .nil)))) (.node (o115_0 P) (.node (o179_0 P) (.node (o307_0 P) (.node (o563_0 P) .nil .nil) (.node (o819_0 P) .nil .nil)) (.node (o435_0 P) (.node (o691_0 P) .nil .nil) (.node (o947_0 P) .nil .nil))) (.node (o243_0 P) (.node (o371_0 P) (.node (o627_0 P) .nil .nil) (.node (o883_0 P) .nil .nil)) (.node (o499_0 P) (.node (o755_0 P) .nil .nil) (.node (o1011_1 P) .nil .nil)))))) (.node (o27_0 P) (.node (o43_0 P) (.node (o75_0 P) (.node (o139_0 P) (.node (o267_0 P) (.node (o523_0 P) .nil .nil) (.node (o779_0 P) .nil .nil)) (.node (o395_0 P) (.node (o651_0 P) .nil .nil) (.node (o907_0 P) .nil .nil))) (.node (o203_0 P) (.node (o331_0 P) (.node (o587_0 P) .nil .nil) (.node (o843_0 P) .nil .nil)) (.node (o459_0 P) (.node (o715_0 P) .nil .nil) (.node (o971_0 P) .nil .nil)))) (.node (o107_0 P) (.node (o171_0 P) (.node (o299_0 P) (.node (o555_0 P) .nil .nil) (.node (o811_0 P) .nil .nil)) (.node (o427_0 P) (.node (o683_0 P) .nil .nil) (.node (o939_0 P) .nil .nil))) (.node (o235_0 P) (.node (o363_0 P) (.node (o619_0 P) .nil .nil) (.node (o875_0 P) .nil .nil)) (.node (o491_0 P) (.node (o747_0 P) .nil .nil) (.node (o1003_0 P) .nil .nil))))) (.node (o59_0 P) (.node (o91_0 P) (.node (o155_0 P) (.node (o283_0 P) (.node (o539_0 P) .nil .nil) (.node (o795_0 P) .nil .nil)) (.node (o411_0 P) (.node (o667_0 P) .nil .nil) (.node (o923_0 P) .nil .nil))) (.node (o219_0 P) (.node (o347_0 P) (.node (o603_0 P) .nil .nil) (.node (o859_0 P) .nil .nil)) (.node (o475_0 P) (.node (o731_0 P) .nil .nil) (.node (o987_0 P) .nil .nil)))) (.node (o123_0 P) (.node (o187_0 P) (.node (o315_0 P) (.node (o571_0 P) .nil .nil) (.node (o827_0 P) .nil .nil)) (.node (o443_0 P) (.node (o699_0 P) .nil .nil) (.node (o955_0 P) .nil .nil))) (.node (o251_0 P) (.node (o379_0 P) (.node (o635_0 P) .nil .nil) (.node (o891_0 P) .nil .nil)) (.node (o507_0 P) (.node (o763_0 P) .nil .nil) .nil))))))) (.node (o5_0 P) (.node (o9_0 P) (.node (o17_0 P) (.node (o33_0 P) (.node (o65_0 P) (.node (o129_0 P) (.node (o257_0 P) (.node (o513_0 P) .nil .nil) (.node (o769_0 P) .nil .nil)) (.node (o385_0 P) (.node (o641_0 P) .nil .nil) (.node (o897_0 P) .nil .nil))) (.node (o193_0 P) (.node (o321_0 P) (.node (o577_0 P) .nil .nil) (.node (o833_0 P) .nil .nil)) (.node (o449_0 P) (.node (o705_0 P) .nil .nil) (.node (o961_0 P) .nil .nil)))) (.node (o97_0 P) (.node (o161_0 P) (.node (o289_1 P) (.node (o545_0 P) .nil .nil) (.node (o801_0 P) .nil .nil)) (.node (o417_0 P) (.node (o673_0 P) .nil .nil) (.node (o929_0 P) .nil .nil))) (.node (o225_0 P) (.node (o353_0 P) (.node (o609_0 P) .nil .nil) (.node (o865_0 P) .nil .nil)) (.node (o481_0 P) (.node (o737_0 P) .nil .nil) (.node (o993_0 P) .nil .nil))))) (.node (o49_0 P) (.node (o81_0 P) (.node (o145_0 P) (.node (o273_0 P) (.node (o529_0 P) .nil .nil) (.node (o785_0 P) .nil .nil)) (.node (o401_0 P) (.node (o657_0 P) .nil .nil) (.node (o913_0 P) .nil .nil))) (.node (o209_0 P) (.node (o337_0 P) (.node (o593_0 P) .nil .nil) (.node (o849_0 P) .nil .nil)) (.node (o465_0 P) (.node (o721_0 P) .nil .nil) (.node (o977_0 P) .nil .nil)))) (.node (o113_0 P) (.node (o177_0 P) (.node (o305_0 P) (.node (o561_0 P) .nil .nil) (.node (o817_0 P) .nil .nil)) (.node (o433_0 P) (.node (o689_0 P) .nil .nil) (.node (o945_0 P) .nil .nil))) (.node (o241_0 P) (.node (o369_0 P) (.node (o625_0 P) .nil .nil) (.node (o881_0 P) .nil .nil)) (.node (o497_0 P) (.node (o753_0 P) .nil .nil) (.node (o1009_1 P) .nil .nil)))))) (.node (o25_0 P) (.node (o41_0 P) (.node (o73_0 P) (.node (o137_0 P) (.node (o265_0 P) (.node (o521_0 P) .nil .nil) (.node (o777_0 P) .nil .nil)) (.node (o393_0 P) (.node (o649_0 P) .nil .nil) (.node (o905_0 P) .nil .nil))) (.node (o201_0 P) (.node (o329_0 P) (.node (o585_0 P) .nil .nil) (.node (o841_0 P) .nil .nil)) (.node (o457_0 P) (.node (o713_0 P) .nil .nil) (.node (o969_0 P) .nil .nil)))) (.node (o105_0 P) (.node (o169_0 P) (.node (o297_0 P) (.node (o553_0 P) .nil .nil) (.node (o809_0 P) .nil .nil)) (.node (o425_0 P) (.node (o681_0 P) .nil .nil) (.node (o937_0 P) .nil .nil))) (.node (o233_0 P) (.node (o361_0 P) (.node (o617_0 P) .nil .nil) (.node (o873_0 P) .nil .nil)) (.node (o489_0 P) (.node (o745_0 P) .nil .nil) (.node (o1001_0 P) .nil .nil))))) (.node (o57_0 P) (.node (o89_0 P) (.node (o153_0 P) (.node (o281_0 P) (.node (o537_0 P) .nil .nil) (.node (o793_0 P) .nil .nil)) (.node (o409_0 P) (.node (o665_0 P) .nil .nil) (.node (o921_0 P) .nil .nil))) (.node (o217_0 P) (.node (o345_0 P) (.node (o601_0 P) .nil .nil) (.node (o857_0 P) .nil .nil)) (.node (o473_0 P) (.node (o729_0 P) .nil .nil) (.node (o985_0 P) .nil .nil)))) (.node (o121_0 P) (.node (o185_0 P) (.node (o313_0 P) (.node (o569_0 P) .nil .nil) (.node (o825_0 P) .nil .nil)) (.node (o441_0 P) (.node (o697_0 P) .nil .nil) (.node (o953_0 P) .nil .nil))) (.node (o249_0 P) (.node (o377_0 P) (.node (o633_0 P) .nil .nil) (.node (o889_0 P) .nil .nil)) (.node (o505_0 P) (.node (o761_0 P) .nil .nil) .nil)))))) (.node (o13_0 P) (.node (o21_0 P) (.node (o37_0 P) (.node (o69_0 P) (.node (o133_0 P) (.node (o261_0 P) (.node (o517_0 P) .nil .nil) (.node (o773_0 P) .nil .nil)) (.node (o389_0 P) (.node (o645_0 P) .nil .nil) (.node (o901_0 P) .nil .nil))) (.node (o197_0 P) (.node (o325_0 P) (.node (o581_0 P) .nil .nil) (.node (o837_0 P) .nil .nil)) (.node (o453_0 P) (.node (o709_0 P) .nil .nil) (.node (o965_0 P) .nil .nil)))) (.node (o101_0 P) (.node (o165_0 P) (.node (o293_0 P) (.node (o549_0 P) .nil .nil) (.node (o805_0 P) .nil .nil)) (.node (o421_0 P) (.node (o677_0 P) .nil .nil) (.node (o933_0 P) .nil .nil))) (.node (o229_0 P) (.node (o357_0 P) (.node (o613_0 P) .nil .nil) (.node (o869_0 P) .nil .nil)) (.node (o485_0 P) (.node (o741_0 P) .nil .nil) (.node (o997_0 P) .nil .nil))))) (.node (o53_0 P) (.node (o85_0 P) (.node (o149_0 P) (.node (o277_0 P) (.node (o533_0 P) .nil .nil) (.node (o789_0 P) .nil .nil)) (.node (o405_0 P) (.node (o661_0 P) .nil .nil) (.node (o917_0 P) .nil .nil))) (.node (o213_0 P) (.node (o341_0 P) (.node (o597_0 P) .nil .nil) (.node (o853_0 P) .nil .nil)) (.node (o469_0 P) (.node (o725_0 P) .nil .nil) (.node (o981_0 P) .nil .nil)))) (.node (o117_0 P) (.node (o181_0 P) (.node (o309_0 P) (.node (o565_0 P) .nil .nil) (.node (o821_0 P) .nil .nil)) (.node (o437_0 P) (.node (o693_0 P) .nil .nil) (.node (o949_0 P) .nil .nil))) (.node (o245_0 P) (.node (o373_0 P) (.node (o629_0 P) .nil .nil) (.node (o885_0 P) .nil .nil)) (.node (o501_0 P) (.node (o757_0 P) .nil .nil) (.node (o1013_0 P) .nil .nil)))))) (.node (o29_0 P) (.node (o45_0 P) (.node (o77_0 P) (.node (o141_0 P) (.node (o269_0 P) (.node (o525_0 P) .nil .nil) (.node (o781_0 P) .nil .nil)) (.node (o397_0 P) (.node (o653_0 P) .nil .nil) (.node (o909_0 P) .nil .nil))) (.node (o205_0 P) (.node (o333_0 P) (.node (o589_0 P) .nil .nil) (.node (o845_0 P) .nil .nil)) (.node (o461_0 P) (.node (o717_0 P) .nil .nil) (.node (o973_0 P) .nil .nil)))) (.node (o109_0 P) (.node (o173_0 P) (.node (o301_0 P) (.node (o557_0 P) .nil .nil) (.node (o813_0 P) .nil .nil)) (.node (o429_0 P) (.node (o685_0 P) .nil .nil) (.node (o941_0 P) .nil .nil))) (.node (o237_0 P) (.node (o365_0 P) (.node (o621_0 P) .nil .nil) (.node (o877_0 P) .nil .nil)) (.node (o493_0 P) (.node (o749_0 P) .nil .nil) (.node (o1005_1 P) .nil .nil))))) (.node (o61_0 P) (.node (o93_0 P) (.node (o157_0 P) (.node (o285_0 P) (.node (o541_0 P) .nil .nil) (.node (o797_0 P) .nil .nil)) (.node (o413_0 P) (.node (o669_0 P) .nil .nil) (.node (o925_0 P) .nil .nil))) (.node (o221_0 P) (.node (o349_0 P) (.node (o605_0 P) .nil .nil) (.node (o861_0 P) .nil .nil)) (.node (o477_0 P) (.node (o733_0 P) .nil .nil) (.node (o989_0 P) .nil .nil)))) (.node (o125_0 P) (.node (o189_0 P) (.node (o317_0 P) (.node (o573_0 P) .nil .nil) (.node (o829_0 P) .nil .nil)) (.node (o445_0 P) (.node (o701_0 P) .nil .nil) (.node (o957_0 P) .nil .nil))) (.node (o253_0 P) (.node (o381_0 P) (.node (o637_0 P) .nil .nil) (.node (o893_0 P) .nil .nil)) (.node (o509_0 P) (.node (o765_0 P) .nil .nil) .nil)))))))) (.node (o2_2 P) (.node (o4_0 P) (.node (o8_0 P) (.node (o16_0 P) (.node (o32_0 P) (.node (o64_0 P) (.node (o128_0 P) (.node (o256_0 P) (.node (o512_0 P) .nil .nil) (.node (o768_0 P) .nil .nil)) (.node (o384_0 P) (.node (o640_0 P) .nil .nil) (.node (o896_0 P) .nil .nil))) (.node (o192_0 P) (.node (o320_0 P) (.node (o576_0 P) .nil .nil) (.node (o832_0 P) .nil .nil)) (.node (o448_0 P) (.node (o704_0 P) .nil .nil) (.node (o960_0 P) .nil .nil)))) (.node (o96_0 P) (.node (o160_0 P) (.node (o288_0 P) (.node (o544_0 P) .nil .nil) (.node (o800_0 P) .nil .nil)) (.node (o416_0 P) (.node (o672_0 P) .nil .nil) (.node (o928_0 P) .nil .nil))) (.node (o224_0 P) (.node (o352_0 P) (.node (o608_0 P) .nil .nil) (.node (o864_0 P) .nil .nil)) (.node (o480_0 P) (.node (o736_0 P) .nil .nil) (.node (o992_0 P) .nil .nil))))) (.node (o48_0 P) (.node (o80_0 P) (.node (o144_0 P) (.node (o272_0 P) (.node (o528_0 P) .nil .nil) (.node (o784_0 P) .nil .nil)) (.node (o400_0 P) (.node (o656_0 P) .nil .nil) (.node (o912_0 P) .nil .nil))) (.node (o208_0 P) (.node (o336_0 P) (.node (o592_0 P) .nil .nil) (.node (o848_0 P) .nil .nil)) (.node (o464_0 P) (.node (o720_0 P) .nil .nil) (.node (o976_0 P) .nil .nil)))) (.node (o112_0 P) (.node (o176_0 P) (.node (o304_0 P) (.node (o560_0 P) .nil .nil) (.node (o816_0 P) .nil .nil)) (.node (o432_0 P) (.node (o688_0 P) .nil .nil) (.node (o944_0 P) .nil .nil))) (.node (o240_0 P) (.node (o368_0 P) (.node (o624_0 P) .nil .nil) (.node (o880_0 P) .nil .nil)) (.node (o496_0 P) (.node (o752_0 P) .nil .nil) (.node (o1008_0 P) .nil .nil)))))) (.node (o24_0 P) (.node (o40_3 P) (.node (o72_0 P) (.node (o136_0 P) (.node (o264_0 P) (.node (o520_0 P) .nil .nil) (.node (o776_0 P) .nil .nil)) (.node (o392_0 P) (.node (o648_0 P) .nil .nil) (.node (o904_0 P) .nil .nil))) (.node (o200_0 P) (.node (o328_0 P) (.node (o584_0 P) .nil .nil) (.node (o840_0 P) .nil .nil)) (.node (o456_0 P) (.node (o712_0 P) .nil .nil) (.node (o968_0 P) .nil .nil)))) (.node (o104_0 P) (.node (o168_0 P) (.node (o296_0 P) (.node (o552_0 P) .nil .nil) (.node (o808_0 P) .nil .nil)) (.node (o424_0 P) (.node (o680_0 P) .nil .nil) (.node (o936_0 P) .nil .nil))) (.node (o232_0 P) (.node (o360_0 P) (.node (o616_0 P) .nil .nil) (.node (o872_0 P) .nil .nil)) (.node (o488_0 P) (.node (o744_0 P) .nil .nil) (.node (o1000_0 P) .nil .nil))))) (.node (o56_0 P) (.node (o88_0 P) (.node (o152_0 P) (.node (o280_0 P) (.node (o536_0 P) .nil .nil) (.node (o792_0 P) .nil .nil)) (.node (o408_0 P) (.node (o664_0 P) .nil .nil) (.node (o920_0 P) .nil .nil))) (.node (o216_0 P) (.node (o344_0 P) (.node (o600_0 P) .nil .nil) (.node (o856_0 P) .nil .nil)) (.node (o472_0 P) (.node (o728_0 P) .nil .nil) (.node (o984_0 P) .nil .nil)))) (.node (o120_0 P) (.node (o184_0 P) (.node (o312_0 P) (.node (o568_0 P) .nil .nil) (.node (o824_0 P) .nil .nil)) (.node (o440_0 P) (.node (o696_0 P) .nil .nil) (.node (o952_0 P) .nil .nil))) (.node (o248_0 P) (.node (o376_0 P) (.node (o632_0 P) .nil .nil) (.node (o888_0 P) .nil .nil)) (.node (o504_0 P) (.node (o760_0 P) .nil .nil) (.node (o1016_0 P) .nil .nil))))))) (.node (o12_0 P) (.node (o20_0 P) (.node (o36_0 P) (.node (o68_0 P) (.node (o132_0 P) (.node (o260_0 P) (.node (o516_0 P) .nil .nil) (.node (o772_0 P) .nil .nil)) (.node (o388_0 P) (.node (o644_0 P) .nil .nil) (.node (o900_0 P) .nil .nil))) (.node (o196_0 P) (.node (o324_0 P) (.node (o580_0 P) .nil .nil) (.node (o836_0 P) .nil .nil)) (.node (o452_0 P) (.node (o708_0 P) .nil .nil) (.node (o964_0 P) .nil .nil)))) (.node (o100_0 P) (.node (o164_0 P) (.node (o292_0 P) (.node (o548_0 P) .nil .nil) (.node (o804_0 P) .nil .nil)) (.node (o420_0 P) (.node (o676_0 P) .nil .nil) (.node (o932_0 P) .nil .nil))) (.node (o228_0 P) (.node (o356_0 P) (.node (o612_0 P) .nil .nil) (.node (o868_0 P) .nil .nil)) (.node (o484_0 P) (.node (o740_0 P) .nil .nil) (.node (o996_0 P) .nil .nil))))) (.node (o52_0 P) (.node (o84_0 P) (.node (o148_0 P) (.node (o276_0 P) (.node (o532_0 P) .nil .nil) (.node (o788_0 P) .nil .nil)) (.node (o404_0 P) (.node (o660_0 P) .nil .nil) (.node (o916_0 P) .nil .nil))) (.node (o212_0 P) (.node (o340_0 P) (.node (o596_0 P) .nil .nil) (.node (o852_0 P) .nil .nil)) (.node (o468_0 P) (.node (o724_0 P) .nil .nil) (.node (o980_0 P) .nil .nil)))) (.node (o116_0 P) (.node (o180_0 P) (.node (o308_0 P) (.node (o564_0 P) .nil .nil) (.node (o820_0 P) .nil .nil)) (.node (o436_0 P) (.node (o692_0 P) .nil .nil) (.node (o948_0 P) .nil .nil))) (.node (o244_0 P) (.node (o372_0 P) (.node (o628_0 P) .nil .nil) (.node (o884_0 P) .nil .nil)) (.node (o500_0 P) (.node (o756_0 P) .nil .nil) (.node (o1012_0 P) .nil .nil)))))) (.node (o28_0 P) (.node (o44_0 P) (.node (o76_0 P) (.node (o140_0 P) (.node (o268_0 P) (.node (o524_0 P) .nil .nil) (.node (o780_0 P) .nil .nil)) (.node (o396_0 P) (.node (o652_0 P) .nil .nil) (.node (o908_0 P) .nil .nil))) (.node (o204_0 P) (.node (o332_0 P) (.node (o588_0 P) .nil .nil) (.node (o844_0 P) .nil .nil)) (.node (o460_0 P) (.node (o716_0 P) .nil .nil) (.node (o972_0 P) .nil .nil)))) (.node (o108_0 P) (.node (o172_0 P) (.node (o300_0 P) (.node (o556_0 P) .nil .nil) (.node (o812_0 P) .nil .nil)) (.node (o428_0 P) (.node (o684_0 P) .nil .nil) (.node (o940_0 P) .nil .nil))) (.node (o236_0 P) (.node (o364_0 P) (.node (o620_0 P) .nil .nil) (.node (o876_0 P) .nil .nil)) (.node (o492_0 P) (.node (o748_0 P) .nil .nil) (.node (o1004_0 P) .nil .nil))))) (.node (o60_0 P) (.node (o92_0 P) (.node (o156_0 P) (.node (o284_0 P) (.node (o540_0 P) .nil .nil) (.node (o796_0 P) .nil .nil)) (.node (o412_0 P) (.node (o668_0 P) .nil .nil) (.node (o924_0 P) .nil .nil))) (.node (o220_0 P) (.node (o348_0 P) (.node (o604_0 P) .nil .nil) (.node (o860_0 P) .nil .nil)) (.node (o476_0 P) (.node (o732_0 P) .nil .nil) (.node (o988_0 P) .nil .nil)))) (.node (o124_0 P) (.node (o188_0 P) (.node (o316_0 P) (.node (o572_0 P) .nil .nil) (.node (o828_0 P) .nil .nil)) (.node (o444_0 P) (.node (o700_0 P) .nil .nil) (.node (o956_0 P) .nil .nil))) (.node (o252_0 P) (.node (o380_0 P) (.node (o636_0 P) .nil .nil) (.node (o892_0 P) .nil .nil)) (.node (o508_0 P) (.node (o764_0 P) .nil .nil) .nil))))))) (.node (o6_0 P) (.node (o10_0 P) (.node (o18_0 P) (.node (o34_0 P) (.node (o66_0 P) (.node (o130_0 P) (.node (o258_0 P) (.node (o514_0 P) .nil .nil) (.node (o770_0 P) .nil .nil)) (.node (o386_0 P) (.node (o642_0 P) .nil .nil) (.node (o898_0 P) .nil .nil))) (.node (o194_0 P) (.node (o322_0 P) (.node (o578_0 P) .nil .nil) (.node (o834_0 P) .nil .nil)) (.node (o450_0 P) (.node (o706_0 P) .nil .nil) (.node (o962_0 P) .nil .nil)))) (.node (o98_0 P) (.node (o162_0 P) (.node (o290_0 P) (.node (o546_0 P) .nil .nil) (.node (o802_0 P) .nil .nil)) (.node (o418_0 P) (.node (o674_0 P) .nil .nil) (.node (o930_0 P) .nil .nil))) (.node (o226_0 P) (.node (o354_0 P) (.node (o610_0 P) .nil .nil) (.node (o866_0 P) .nil .nil)) (.node (o482_0 P) (.node (o738_0 P) .nil .nil) (.node (o994_0 P) .nil .nil))))) (.node (o50_0 P) (.node (o82_0 P) (.node (o146_0 P) (.node (o274_0 P) (.node (o530_0 P) .nil .nil) (.node (o786_0 P) .nil .nil)) (.node (o402_0 P) (.node (o658_0 P) .nil .nil) (.node (o914_0 P) .nil .nil))) (.node (o210_0 P) (.node (o338_0 P) (.node (o594_0 P) .nil .nil) (.node (o850_0 P) .nil .nil)) (.node (o466_0 P) (.node (o722_0 P) .nil .nil) (.node (o978_0 P) .nil .nil)))) (.node (o114_0 P) (.node (o178_0 P) (.node (o306_0 P) (.node (o562_0 P) .nil .nil) (.node (o818_0 P) .nil .nil)) (.node (o434_0 P) (.node (o690_0 P) .nil .nil) (.node (o946_0 P) .nil .nil))) (.node (o242_0 P) (.node (o370_0 P) (.node (o626_0 P) .nil .nil) (.node (o882_0 P) .nil .nil)) (.node (o498_0 P) (.node (o754_0 P) .nil .nil) (.node (o1010_0 P) .nil .nil)))))) (.node (o26_0 P) (.node (o42_0 P) (.node (o74_0 P) (.node (o138_0 P) (.node (o266_0 P) (.node (o522_0 P) .nil .nil) (.node (o778_0 P) .nil .nil)) (.node (o394_0 P) (.node (o650_0 P) .nil .nil) (.node (o906_0 P) .nil .nil))) (.node (o202_0 P) (.node (o330_0 P) (.node (o586_0 P) .nil .nil) (.node (o842_0 P) .nil .nil)) (.node (o458_0 P) (.node (o714_0 P) .nil .nil) (.node (o970_0 P) .nil .nil)))) (.node (o106_0 P) (.node (o170_0 P) (.node (o298_0 P) (.node (o554_0 P) .nil .nil) (.node (o810_0 P) .nil .nil)) (.node (o426_0 P) (.node (o682_0 P) .nil .nil) (.node (o938_0 P) .nil .nil))) (.node (o234_0 P) (.node (o362_0 P) (.node (o618_0 P) .nil .nil) (.node (o874_0 P) .nil .nil)) (.node (o490_0 P) (.node (o746_0 P) .nil .nil) (.node (o1002_0 P) .nil .nil))))) (.node (o58_0 P) (.node (o90_0 P) (.node (o154_0 P) (.node (o282_0 P) (.node (o538_0 P) .nil .nil) (.node (o794_0 P) .nil .nil)) (.node (o410_0 P) (.node (o666_0 P) .nil .nil) (.node (o922_0 P) .nil .nil))) (.node (o218_0 P) (.node (o346_0 P) (.node (o602_0 P) .nil .nil) (.node (o858_0 P) .nil .nil)) (.node (o474_0 P) (.node (o730_0 P) .nil .nil) (.node (o986_0 P) .nil .nil)))) (.node (o122_0 P) (.node (o186_0 P) (.node (o314_0 P) (.node (o570_0 P) .nil .nil) (.node (o826_0 P) .nil .nil)) (.node (o442_0 P) (.node (o698_0 P) .nil .nil) (.node (o954_0 P) .nil .nil))) (.node (o250_0 P) (.node (o378_0 P) (.node (o634_0 P) .nil .nil) (.node (o890_0 P) .nil .nil)) (.node (o506_0 P) (.node (o762_0 P) .nil .nil) .nil)))))) (.node (o14_0 P) (.node (o22_0 P) (.node (o38_0 P) (.node (o70_0 P) (.node (o134_0 P) (.node (o262_0 P) (.node (o518_0 P) .nil .nil) (.node (o774_0 P) .nil .nil)) (.node (o390_0 P) (.node (o646_0 P) .nil .nil) (.node (o902_0 P) .nil .nil))) (.node (o198_0 P) (.node (o326_0 P) (.node (o582_0 P) .nil .nil) (.node (o838_0 P) .nil .nil)) (.node (o454_0 P) (.node (o710_0 P) .nil .nil) (.node (o966_0 P) .nil .nil)))) (.node (o102_0 P) (.node (o166_0 P) (.node (o294_0 P) (.node (o550_0 P) .nil .nil) (.node (o806_0 P) .nil .nil)) (.node (o422_0 P) (.node (o678_0 P) .nil .nil) (.node (o934_0 P) .nil .nil))) (.node (o230_0 P) (.node (o358_0 P) (.node (o614_0 P) .nil .nil) (.node (o870_0 P) .nil .nil)) (.node (o486_0 P) (.node (o742_0 P) .nil .nil) (.node (o998_0 P) .nil .nil))))) (.node (o54_0 P) (.node (o86_0 P) (.node (o150_0 P) (.node (o278_0 P) (.node (o534_0 P) .nil .nil) (.node (o790_0 P) .nil .nil)) (.node (o406_0 P) (.node (o662_0 P) .nil .nil) (.node (o918_0 P) .nil .nil))) (.node (o214_0 P) (.node (o342_0 P) (.node (o598_0 P) .nil .nil) (.node (o854_0 P) .nil .nil)) (.node (o470_0 P) (.node (o726_0 P) .nil .nil) (.node (o982_0 P) .nil .nil)))) (.node (o118_0 P) (.node (o182_0 P) (.node (o310_0 P) (.node (o566_0 P) .nil .nil) (.node (o822_0 P) .nil .nil)) (.node (o438_0 P) (.node (o694_0 P) .nil .nil) (.node (o950_0 P) .nil .nil))) (.node (o246_0 P) (.node (o374_0 P) (.node (o630_0 P) .nil .nil) (.node (o886_0 P) .nil .nil)) (.node (o502_0 P) (.node (o758_0 P) .nil .nil) (.node (o1014_0 P) .nil .nil)))))) (.node (o30_0 P) (.node (o46_0 P) (.node (o78_0 P) (.node (o142_0 P) (.node (o270_0 P) (.node (o526_0 P) .nil .nil) (.node (o782_0 P) .nil .nil)) (.node (o398_0 P) (.node (o654_0 P) .nil .nil) (.node (o910_0 P) .nil .nil))) (.node (o206_0 P) (.node (o334_0 P) (.node (o590_0 P) .nil .nil) (.node (o846_0 P) .nil .nil)) (.node (o462_0 P) (.node (o718_0 P) .nil .nil) (.node (o974_0 P) .nil .nil)))) (.node (o110_0 P) (.node (o174_0 P) (.node (o302_0 P) (.node (o558_0 P) .nil .nil) (.node (o814_0 P) .nil .nil)) (.node (o430_0 P) (.node (o686_0 P) .nil .nil) (.node (o942_0 P) .nil .nil))) (.node (o238_0 P) (.node (o366_0 P) (.node (o622_0 P) .nil .nil) (.node (o878_0 P) .nil .nil)) (.node (o494_0 P) (.node (o750_0 P) .nil .nil) (.node (o1006_0 P) .nil .nil))))) (.node (o62_0 P) (.node (o94_0 P) (.node (o158_0 P) (.node (o286_0 P) (.node (o542_0 P) .nil .nil) (.node (o798_0 P) .nil .nil)) (.node (o414_0 P) (.node (o670_0 P) .nil .nil) (.node (o926_0 P) .nil .nil))) (.node (o222_0 P) (.node (o350_0 P) (.node (o606_0 P) .nil .nil) (.node (o862_0 P) .nil .nil)) (.node (o478_0 P) (.node (o734_0 P) .nil .nil) (.node (o990_0 P) .nil .nil)))) (.node (o126_0 P) (.node (o190_0 P) (.node (o318_0 P) (.node (o574_0 P) .nil .nil) (.node (o830_0 P) .nil .nil)) (.node (o446_0 P) (.node (o702_0 P) .nil .nil) (.node (o958_0 P) .nil .nil))) (.node (o254_0 P) (.node (o382_0 P) (.node (o638_0 P) .nil .nil) (.node (o894_0 P) .nil .nil)) (.node (o510_0 P) (.node (o766_0 P) .nil .nil) .nil)))))))))
def o3_4 (P : Params) : Obj := ⟨(.type "dict"), none, (.dict #[de P "__name__" 165 (vs "law_vn0026_01" 2944), de P "__doc__" 166 .none, de P "__package__" 167 .none, de P "__loader__" 168 (.builtin "__main__.__loader__#opaque"), de P "__spec__" 169 .none, de P "__annotations__" 170 (vr 6), de P "__builtins__" 171 (vr 4), de P "__file__" 173 (vs "/claim/cut.py" 172), de P "__cached__" 174 .none, de P "pack_struct" 313 (.builtin "_struct.pack"), de P "unpack" 316 (.builtin "_struct.unpack"), de P "_wall" 329 (vr 49), de P "frozendict" 351 (vr 59), de P "ExtType" 407 (vr 104), de P "Timestamp" 555 (vr 207), de P "DEFAULT_RECURSE_LIMIT" 559 (.int 1024 558), de P "_check_type_strict" 568 (vr 218), de P "_whence" 578 (vr 225), de P "_index" 586 (vr 232), de P "UnsupportedOperation" 608 (vr 242), de P "IOBase" 640 (vr 262), de P "BufferedIOBase" 658 (vr 277), de P "TextIOBase" 676 (vr 289), de P "BytesIO" 938 (vr 519), de P "StringIO" 1225 (vr 766), de P "Packer" 1394 (vr 879), de P "RLPException" 1416 (vr 893), de P "EncodingError" 1444 (vr 915), de P "SerializationError" 1472 (vr 936), de P "ListSerializationError" 1503 (vr 958), de P "DeserializationError" 1531 (vr 979), de P "ListDeserializationError" 1562 (vr 1001), de P "ALL_BYTES" 2600 (vr 1016), de P "Atomic" 2601 (vr 1017), de P "Sequence" 2602 (vr 1018), de P "big_endian_to_int" 2609 (vr 1025), de P "int_to_big_endian" 2616 (vr 1032), de P "BigEndianInt" 2664 (vr 1064), de P "big_endian_int" 2669 (vr 1070), de P "Binary" 2769 (vr 1131), de P "binary" 2783 (vr 1137), de P "Boolean" 2821 (vr 1162), de P "boolean" 2822 (vr 1168), de P "is_sedes" 2831 (vr 1175), de P "is_sequence" 2838 (vr 1182), de P "List" 2897 (vr 1216), de P "encode_raw" 2910 (vr 1227), de P "encode" 2922 (vr 1235), de P "LONG_LENGTH" 2926 (.int 18446744073709551616 2925), de P "length_prefix" 2935 (vr 1242), de P "infer_sedes" 2943 (vr 1249), de P "_law_number" 2954 (vr 1256), de P "_law_place" 2960 (vr 1261), de P "law" 2966 (vr 1266)] 54), #[]⟩
def o40_4 (P : Params) : Obj := ⟨.none, none, (.fields #[(vi 2), (vi 0), (vr 48), (vi 6), (vi 0), (vr 55), (vi 9), (vi 0), (vr 69), (vi 31), (vi 0), (vr 114), (vi 99), (vi 0), (vr 217), (vi 105), (vi 0), (vr 224), (vi 110), (vi 0), (vr 231), (vi 117), (vi 0), (vr 238), (vi 119), (vi 0), (vr 251), (vi 126), (vi 0), (vr 273), (vi 128), (vi 0), (vr 285), (vi 130), (vi 0), (vr 297), (vi 301), (vi 0), (vr 527), (vi 508), (vi 0), (vr 774), (vi 701), (vi 0), (vr 889), (vi 703), (vi 0), (vr 903), (vi 708), (vi 0), (vr 924), (vi 713), (vi 0), (vr 945), (vi 723), (vi 0), (vr 967), (vi 728), (vi 0), (vr 988), (vi 739), (vi 18), (vr 1008), (vi 742), (vi 0), (vr 1024), (vi 744), (vi 0), (vr 1031), (vi 747), (vi 0), (vr 1038), (vi 777), (vi 0), (vr 1077), (vi 814), (vi 0), (vr 1144), (vi 835), (vi 0), (vr 1174), (vi 837), (vi 0), (vr 1181), (vi 839), (vi 0), (vr 1189), (vi 879), (vi 0), (vr 1226), (vi 896), (vi 0), (vr 1234), (vi 906), (vi 0), (vr 1241), (vi 914), (vi 0), (vr 1248), (vi 928), (vi 0), (vr 1255), (vi 932), (vi 0), (vr 1260), (vi 938), (vi 0), (vr 1265)]), #[]⟩
def o1017_0 (P : Params) : Obj := ⟨(.type "tuple"), none, (.seq #[(.type "bytes"), (.type "bytearray")] 0), #[]⟩
def o1018_0 (P : Params) : Obj := ⟨(.type "tuple"), none, (.seq #[(.type "list"), (.type "tuple")] 0), #[]⟩
def o1019_0 (P : Params) : Obj := ⟨(.type "tuple"), none, (.seq #[] 0), #[]⟩
def o1020_0 (P : Params) : Obj := ⟨.none, none, (.fields #[]), #[]⟩
def o1021_0 (P : Params) : Obj := ⟨(.type "tuple"), none, (.seq #[(vs "value" 2606)] 0), #[]⟩
def o1022_0 (P : Params) : Obj := ⟨(.type "tuple"), none, (.seq #[] 0), #[]⟩
def o1023_0 (P : Params) : Obj := ⟨.none, none, (fO (topS 32) (sn "big_endian_to_int") [] .none .none .none .none none .none .none 0 0), #[]⟩
def o1024_0 (P : Params) : Obj := ⟨(.type "code"), none, (.fields #[(vs "big_endian_to_int" 2603), (vs "big_endian_to_int" 2604), (vs "/claim/cut.py" 2605), (vi 742), (vi 1), (vi 0), (vi 0), (vi 3), (vr 1019), (.bool true), (vi 317), (vr 1020), .none, (vr 1021), (vr 1022), (vr 1023), (vi 2607), (vi 742), (vs "/claim/cut.py" 2608)]), #[]⟩
def o1025_0 (P : Params) : Obj := ⟨(.type "function"), none, (fO (topS 32) (sn "big_endian_to_int") [] .none .none .none (vs "rlp.utils" 1563) none (vr 1024) .none 0 3), #[]⟩
def o1026_0 (P : Params) : Obj := ⟨(.type "tuple"), none, (.seq #[] 0), #[]⟩
def o1027_0 (P : Params) : Obj := ⟨.none, none, (.fields #[]), #[]⟩
def o1028_0 (P : Params) : Obj := ⟨(.type "tuple"), none, (.seq #[(vs "value" 2613)] 0), #[]⟩
def o1029_0 (P : Params) : Obj := ⟨(.type "tuple"), none, (.seq #[] 0), #[]⟩
def o1030_0 (P : Params) : Obj := ⟨.none, none, (fO (topS 33) (sn "int_to_big_endian") [] .none .none .none .none none .none .none 0 0), #[]⟩
def o1031_0 (P : Params) : Obj := ⟨(.type "code"), none, (.fields #[(vs "int_to_big_endian" 2610), (vs "int_to_big_endian" 2611), (vs "/claim/cut.py" 2612), (vi 744), (vi 1), (vi 0), (vi 0), (vi 3), (vr 1026), (.bool true), (vi 317), (vr 1027), .none, (vr 1028), (vr 1029), (vr 1030), (vi 2614), (vi 744), (vs "/claim/cut.py" 2615)]), #[]⟩
def o1032_0 (P : Params) : Obj := ⟨(.type "function"), none, (fO (topS 33) (sn "int_to_big_endian") [] .none .none .none (vs "rlp.utils" 1563) none (vr 1031) .none 0 3), #[]⟩
def o1033_0 (P : Params) : Obj := ⟨(.type "tuple"), none, (.seq #[] 0), #[]⟩
def o1034_0 (P : Params) : Obj := ⟨(.type "builtin_function_or_method"), none, (.fields #[(.builtin "type.__prepare__"), (.type "type")]), #[]⟩
def o1035_0 (P : Params) : Obj := ⟨(.type "dict"), none, (.dict #[de P "__module__" 2626 (vs "rlp.sedes.big_endian_int" 2617), de P "__qualname__" 2628 (vs "BigEndianInt" 2627), de P "__firstlineno__" 2630 (.int 747 2629), de P "__init__" 2638 (vr 1047), de P "serialize" 2647 (vr 1054), de P "deserialize" 2655 (vr 1061), de P "__static_attributes__" 2657 (vr 1062)] 7), #[]⟩
def o1036_0 (P : Params) : Obj := ⟨(.type "tuple"), none, (.seq #[] 0), #[]⟩
def o1037_0 (P : Params) : Obj := ⟨.none, none, (.fields #[(vi 749), (vi 4), (vr 1046), (vi 752), (vi 4), (vr 1053), (vi 768), (vi 4), (vr 1060)]), #[]⟩
def o1038_0 (P : Params) : Obj := ⟨(.type "code"), none, (.fields #[(vs "BigEndianInt" 2621), (vs "BigEndianInt" 2622), (vs "/claim/cut.py" 2623), (vi 747), (vi 0), (vi 0), (vi 0), (vi 0), (vr 1036), (.bool false), (vi 317), (vr 1037), .none, .none, .none, .none, (vi 2624), (vi 747), (vs "/claim/cut.py" 2625)]), #[]⟩
def o1039_0 (P : Params) : Obj := ⟨(.type "frame"), none, .plain, #[(some (vr 1038)), (some (vr 3)), (some (vr 1035)), none, (some (vs "rlp.sedes.big_endian_int" 2617)), none, (some (vr 0))]⟩
def o1040_0 (P : Params) : Obj := ⟨(.type "tuple"), none, (.seq #[.none] 0), #[]⟩
def o1041_0 (P : Params) : Obj := ⟨(.type "tuple"), none, (.seq #[] 0), #[]⟩
def o1042_0 (P : Params) : Obj := ⟨.none, none, (.fields #[]), #[]⟩
def o1043_0 (P : Params) : Obj := ⟨(.type "tuple"), none, (.seq #[(vs "self" 2634), (vs "length" 2635)] 0), #[]⟩
def o1044_0 (P : Params) : Obj := ⟨(.type "tuple"), none, (.seq #[] 0), #[]⟩
def o1045_0 (P : Params) : Obj := ⟨.none, none, (fO (mth 35 0) (sn "BigEndianInt.__init__") [] .none .none .none .none none .none .none 0 0), #[]⟩
def o1046_0 (P : Params) : Obj := ⟨(.type "code"), none, (.fields #[(vs "__init__" 2631), (vs "BigEndianInt.__init__" 2632), (vs "/claim/cut.py" 2633), (vi 749), (vi 2), (vi 0), (vi 0), (vi 3), (vr 1041), (.bool true), (vi 317), (vr 1042), .none, (vr 1043), (vr 1044), (vr 1045), (vi 2636), (vi 749), (vs "/claim/cut.py" 2637)]), #[]⟩
def o1047_0 (P : Params) : Obj := ⟨(.type "function"), none, (fO (mth 35 0) (sn "BigEndianInt.__init__") [] (vr 1040) .none .none (vs "rlp.sedes.big_endian_int" 2617) none (vr 1046) .none 0 3), #[]⟩
def o1048_0 (P : Params) : Obj := ⟨(.type "tuple"), none, (.seq #[] 0), #[]⟩
def o1049_0 (P : Params) : Obj := ⟨.none, none, (.fields #[]), #[]⟩
def o1050_0 (P : Params) : Obj := ⟨(.type "tuple"), none, (.seq #[(vs "self" 2642), (vs "obj" 2643), (vs "s" 2644)] 0), #[]⟩
def o1051_0 (P : Params) : Obj := ⟨(.type "tuple"), none, (.seq #[] 0), #[]⟩
def o1052_0 (P : Params) : Obj := ⟨.none, none, (fO (mth 35 1) (sn "BigEndianInt.serialize") [] .none .none .none .none none .none .none 0 0), #[]⟩
def o1053_0 (P : Params) : Obj := ⟨(.type "code"), none, (.fields #[(vs "serialize" 2639), (vs "BigEndianInt.serialize" 2640), (vs "/claim/cut.py" 2641), (vi 752), (vi 2), (vi 0), (vi 0), (vi 3), (vr 1048), (.bool true), (vi 317), (vr 1049), .none, (vr 1050), (vr 1051), (vr 1052), (vi 2645), (vi 752), (vs "/claim/cut.py" 2646)]), #[]⟩
def o1054_0 (P : Params) : Obj := ⟨(.type "function"), none, (fO (mth 35 1) (sn "BigEndianInt.serialize") [] .none .none .none (vs "rlp.sedes.big_endian_int" 2617) none (vr 1053) .none 0 3), #[]⟩
def o1055_0 (P : Params) : Obj := ⟨(.type "tuple"), none, (.seq #[] 0), #[]⟩
def o1056_0 (P : Params) : Obj := ⟨.none, none, (.fields #[]), #[]⟩
def o1057_0 (P : Params) : Obj := ⟨(.type "tuple"), none, (.seq #[(vs "self" 2651), (vs "serial" 2652)] 0), #[]⟩
def o1058_0 (P : Params) : Obj := ⟨(.type "tuple"), none, (.seq #[] 0), #[]⟩
def o1059_0 (P : Params) : Obj := ⟨.none, none, (fO (mth 35 2) (sn "BigEndianInt.deserialize") [] .none .none .none .none none .none .none 0 0), #[]⟩
def o1060_0 (P : Params) : Obj := ⟨(.type "code"), none, (.fields #[(vs "deserialize" 2648), (vs "BigEndianInt.deserialize" 2649), (vs "/claim/cut.py" 2650), (vi 768), (vi 2), (vi 0), (vi 0), (vi 3), (vr 1055), (.bool true), (vi 317), (vr 1056), .none, (vr 1057), (vr 1058), (vr 1059), (vi 2653), (vi 768), (vs "/claim/cut.py" 2654)]), #[]⟩
def o1061_0 (P : Params) : Obj := ⟨(.type "function"), none, (fO (mth 35 2) (sn "BigEndianInt.deserialize") [] .none .none .none (vs "rlp.sedes.big_endian_int" 2617) none (vr 1060) .none 0 3), #[]⟩
def o1062_0 (P : Params) : Obj := ⟨(.type "tuple"), none, (.seq #[(vs "length" 2656)] 0), #[]⟩
def o1063_0 (P : Params) : Obj := ⟨(.type "dict"), none, (.dict #[de P "__module__" 2626 (vs "rlp.sedes.big_endian_int" 2617), de P "__firstlineno__" 2630 (.int 747 2629), de P "__init__" 2638 (vr 1047), de P "serialize" 2647 (vr 1054), de P "deserialize" 2655 (vr 1061), de P "__static_attributes__" 2657 (vr 1062), de P "__dict__" 2659 (vr 1065), de P "__weakref__" 2661 (vr 1066), de P "__doc__" 2662 .none] 4), #[]⟩
def o1064_0 (P : Params) : Obj := ⟨(.type "type"), none, (.cls { name := sn "BigEndianInt", bases := [(.type "object")], mro := [(vr 1064), (.type "object")], ns := 1063, qualname := sn "BigEndianInt", hasDict := true, slotNames := [], subclasses := [], abstract := false, collection := none, hasDel := false }), #[none, none, (some (vs "BigEndianInt" 2619)), (some (vs "BigEndianInt" 2627)), (some (.builtin "object.__new__")), (some (.bool true))]⟩
def o1065_0 (P : Params) : Obj := ⟨(.type "getset_descriptor"), none, (.fields #[(vs "__dict__" 2658), (vr 1064), (.builtin "function.__dict__"), (.builtin "function.__dict__#set")]), #[]⟩
def o1066_0 (P : Params) : Obj := ⟨(.type "getset_descriptor"), none, (.fields #[(vs "__weakref__" 2660), (vr 1064), (.builtin "ExceptionGroup.__weakref__"), .none]), #[]⟩
def o1067_0 (P : Params) : Obj := ⟨(.type "super"), none, (.fields #[(vr 1064), (vr 1064), (vr 1064)]), #[]⟩
def o1068_0 (P : Params) : Obj := ⟨(.type "builtin_function_or_method"), none, (.fields #[(.builtin "object.__init_subclass__"), (vr 1064)]), #[]⟩
def o1069_0 (P : Params) : Obj := ⟨(.type "dict"), none, (.dict #[de P "length" 2668 .none] 1), #[]⟩
def o1070_0 (P : Params) : Obj := ⟨(vr 1064), (some 1069), .plain, #[]⟩
def o1071_0 (P : Params) : Obj := ⟨(.type "frame"), none, (.dict #[de P "self" 2665 (vr 1070), de P "length" 2666 .none] 2), #[]⟩
def o1072_0 (P : Params) : Obj := ⟨(.type "tuple"), none, (.seq #[] 0), #[]⟩
def o1073_0 (P : Params) : Obj := ⟨(.type "builtin_function_or_method"), none, (.fields #[(.builtin "type.__prepare__"), (.type "type")]), #[]⟩
def o1074_0 (P : Params) : Obj := ⟨(.type "dict"), none, (.dict #[de P "__module__" 2679 (vs "rlp.sedes.binary" 2670), de P "__qualname__" 2681 (vs "Binary" 2680), de P "__firstlineno__" 2683 (.int 777 2682), de P "__init__" 2693 (vr 1086), de P "fixed_length" 2714 (vr 1096), de P "is_valid_type" 2734 (vr 1106), de P "is_valid_length" 2742 (vr 1114), de P "serialize" 2750 (vr 1121), de P "deserialize" 2758 (vr 1128), de P "__static_attributes__" 2762 (vr 1129)] 10), #[]⟩
def o1075_0 (P : Params) : Obj := ⟨(.type "tuple"), none, (.seq #[] 0), #[]⟩
def o1076_0 (P : Params) : Obj := ⟨.none, none, (.fields #[(vi 779), (vi 4), (vr 1085), (vi 788), (vi 4), (vr 1093), (vi 792), (vi 4), (vr 1103), (vi 795), (vi 4), (vr 1113), (vi 798), (vi 4), (vr 1120), (vi 805), (vi 4), (vr 1127)]), #[]⟩
def o1077_0 (P : Params) : Obj := ⟨(.type "code"), none, (.fields #[(vs "Binary" 2674), (vs "Binary" 2675), (vs "/claim/cut.py" 2676), (vi 777), (vi 0), (vi 0), (vi 0), (vi 0), (vr 1075), (.bool false), (vi 317), (vr 1076), .none, .none, .none, .none, (vi 2677), (vi 777), (vs "/claim/cut.py" 2678)]), #[]⟩
def o1078_0 (P : Params) : Obj := ⟨(.type "frame"), none, .plain, #[(some (vr 1077)), (some (vr 3)), (some (vr 1074)), none, (some (vs "rlp.sedes.binary" 2670)), none, (some (vr 0))]⟩
def o1079_0 (P : Params) : Obj := ⟨(.type "tuple"), none, (.seq #[.none, .none, (.bool false)] 0), #[]⟩
def o1080_0 (P : Params) : Obj := ⟨(.type "tuple"), none, (.seq #[] 0), #[]⟩
def o1081_0 (P : Params) : Obj := ⟨.none, none, (.fields #[]), #[]⟩
def o1082_0 (P : Params) : Obj := ⟨(.type "tuple"), none, (.seq #[(vs "self" 2687), (vs "min_length" 2688), (vs "max_length" 2689), (vs "allow_empty" 2690)] 0), #[]⟩
def o1083_0 (P : Params) : Obj := ⟨(.type "tuple"), none, (.seq #[] 0), #[]⟩
def o1084_0 (P : Params) : Obj := ⟨.none, none, (fO (mth 38 0) (sn "Binary.__init__") [] .none .none .none .none none .none .none 0 0), #[]⟩
def o1085_0 (P : Params) : Obj := ⟨(.type "code"), none, (.fields #[(vs "__init__" 2684), (vs "Binary.__init__" 2685), (vs "/claim/cut.py" 2686), (vi 779), (vi 4), (vi 0), (vi 0), (vi 3), (vr 1080), (.bool true), (vi 317), (vr 1081), .none, (vr 1082), (vr 1083), (vr 1084), (vi 2691), (vi 779), (vs "/claim/cut.py" 2692)]), #[]⟩
def o1086_0 (P : Params) : Obj := ⟨(.type "function"), none, (fO (mth 38 0) (sn "Binary.__init__") [] (vr 1079) .none .none (vs "rlp.sedes.binary" 2670) none (vr 1085) .none 0 3), #[]⟩
def o1087_0 (P : Params) : Obj := ⟨(.type "tuple"), none, (.seq #[(.bool false)] 0), #[]⟩
def o1088_0 (P : Params) : Obj := ⟨(.type "tuple"), none, (.seq #[] 0), #[]⟩
def o1089_0 (P : Params) : Obj := ⟨.none, none, (.fields #[]), #[]⟩
def o1090_0 (P : Params) : Obj := ⟨(.type "tuple"), none, (.seq #[(vs "cls" 2697), (vs "length" 2698), (vs "allow_empty" 2699)] 0), #[]⟩
def o1091_0 (P : Params) : Obj := ⟨(.type "tuple"), none, (.seq #[] 0), #[]⟩
def o1092_0 (P : Params) : Obj := ⟨.none, none, (fO (mth 38 1) (sn "Binary.fixed_length") [] .none .none .none .none none .none .none 0 0), #[]⟩
def o1093_0 (P : Params) : Obj := ⟨(.type "code"), none, (.fields #[(vs "fixed_length" 2694), (vs "Binary.fixed_length" 2695), (vs "/claim/cut.py" 2696), (vi 787), (vi 3), (vi 0), (vi 0), (vi 3), (vr 1088), (.bool true), (vi 317), (vr 1089), .none, (vr 1090), (vr 1091), (vr 1092), (vi 2700), (vi 787), (vs "/claim/cut.py" 2701)]), #[]⟩
def o1094_0 (P : Params) : Obj := ⟨(.type "function"), none, (fO (mth 38 1) (sn "Binary.fixed_length") [] (vr 1087) .none .none (vs "rlp.sedes.binary" 2670) (some 1097) (vr 1093) .none 0 3), #[]⟩
def o1095_0 (P : Params) : Obj := ⟨(.type "dict"), none, (.dict #[de P "__module__" 2703 (vs "rlp.sedes.binary" 2670), de P "__name__" 2706 (vs "fixed_length" 2705), de P "__qualname__" 2709 (vs "Binary.fixed_length" 2708), de P "__doc__" 2711 .none, de P "__annotations__" 2713 (vr 1097)] 5), #[]⟩
def o1096_0 (P : Params) : Obj := ⟨(.type "classmethod"), (some 1095), (.fields #[(vr 1094), (.bool false)]), #[]⟩
def o1097_0 (P : Params) : Obj := ⟨(.type "dict"), none, (.dict #[] 0), #[]⟩
def o1098_0 (P : Params) : Obj := ⟨(.type "tuple"), none, (.seq #[] 0), #[]⟩
def o1099_0 (P : Params) : Obj := ⟨.none, none, (.fields #[]), #[]⟩
def o1100_0 (P : Params) : Obj := ⟨(.type "tuple"), none, (.seq #[(vs "cls" 2718), (vs "obj" 2719)] 0), #[]⟩
def o1101_0 (P : Params) : Obj := ⟨(.type "tuple"), none, (.seq #[] 0), #[]⟩
def o1102_0 (P : Params) : Obj := ⟨.none, none, (fO (mth 38 2) (sn "Binary.is_valid_type") [] .none .none .none .none none .none .none 0 0), #[]⟩
def o1103_0 (P : Params) : Obj := ⟨(.type "code"), none, (.fields #[(vs "is_valid_type" 2715), (vs "Binary.is_valid_type" 2716), (vs "/claim/cut.py" 2717), (vi 791), (vi 2), (vi 0), (vi 0), (vi 3), (vr 1098), (.bool true), (vi 317), (vr 1099), .none, (vr 1100), (vr 1101), (vr 1102), (vi 2720), (vi 791), (vs "/claim/cut.py" 2721)]), #[]⟩
def o1104_0 (P : Params) : Obj := ⟨(.type "function"), none, (fO (mth 38 2) (sn "Binary.is_valid_type") [] .none .none .none (vs "rlp.sedes.binary" 2670) (some 1107) (vr 1103) .none 0 3), #[]⟩
def o1105_0 (P : Params) : Obj := ⟨(.type "dict"), none, (.dict #[de P "__module__" 2723 (vs "rlp.sedes.binary" 2670), de P "__name__" 2726 (vs "is_valid_type" 2725), de P "__qualname__" 2729 (vs "Binary.is_valid_type" 2728), de P "__doc__" 2731 .none, de P "__annotations__" 2733 (vr 1107)] 5), #[]⟩
def o1106_0 (P : Params) : Obj := ⟨(.type "classmethod"), (some 1105), (.fields #[(vr 1104), (.bool false)]), #[]⟩
def o1107_0 (P : Params) : Obj := ⟨(.type "dict"), none, (.dict #[] 0), #[]⟩
def o1108_0 (P : Params) : Obj := ⟨(.type "tuple"), none, (.seq #[] 0), #[]⟩
def o1109_0 (P : Params) : Obj := ⟨.none, none, (.fields #[]), #[]⟩
def o1110_0 (P : Params) : Obj := ⟨(.type "tuple"), none, (.seq #[(vs "self" 2738), (vs "length" 2739)] 0), #[]⟩
def o1111_0 (P : Params) : Obj := ⟨(.type "tuple"), none, (.seq #[] 0), #[]⟩
def o1112_0 (P : Params) : Obj := ⟨.none, none, (fO (mth 38 3) (sn "Binary.is_valid_length") [] .none .none .none .none none .none .none 0 0), #[]⟩
def o1113_0 (P : Params) : Obj := ⟨(.type "code"), none, (.fields #[(vs "is_valid_length" 2735), (vs "Binary.is_valid_length" 2736), (vs "/claim/cut.py" 2737), (vi 795), (vi 2), (vi 0), (vi 0), (vi 3), (vr 1108), (.bool true), (vi 317), (vr 1109), .none, (vr 1110), (vr 1111), (vr 1112), (vi 2740), (vi 795), (vs "/claim/cut.py" 2741)]), #[]⟩
def o1114_0 (P : Params) : Obj := ⟨(.type "function"), none, (fO (mth 38 3) (sn "Binary.is_valid_length") [] .none .none .none (vs "rlp.sedes.binary" 2670) none (vr 1113) .none 0 3), #[]⟩
def o1115_0 (P : Params) : Obj := ⟨(.type "tuple"), none, (.seq #[] 0), #[]⟩
def o1116_0 (P : Params) : Obj := ⟨.none, none, (.fields #[]), #[]⟩
def o1117_0 (P : Params) : Obj := ⟨(.type "tuple"), none, (.seq #[(vs "self" 2746), (vs "obj" 2747)] 0), #[]⟩
def o1118_0 (P : Params) : Obj := ⟨(.type "tuple"), none, (.seq #[] 0), #[]⟩
def o1119_0 (P : Params) : Obj := ⟨.none, none, (fO (mth 38 4) (sn "Binary.serialize") [] .none .none .none .none none .none .none 0 0), #[]⟩
def o1120_0 (P : Params) : Obj := ⟨(.type "code"), none, (.fields #[(vs "serialize" 2743), (vs "Binary.serialize" 2744), (vs "/claim/cut.py" 2745), (vi 798), (vi 2), (vi 0), (vi 0), (vi 3), (vr 1115), (.bool true), (vi 317), (vr 1116), .none, (vr 1117), (vr 1118), (vr 1119), (vi 2748), (vi 798), (vs "/claim/cut.py" 2749)]), #[]⟩
def o1121_0 (P : Params) : Obj := ⟨(.type "function"), none, (fO (mth 38 4) (sn "Binary.serialize") [] .none .none .none (vs "rlp.sedes.binary" 2670) none (vr 1120) .none 0 3), #[]⟩
def o1122_0 (P : Params) : Obj := ⟨(.type "tuple"), none, (.seq #[] 0), #[]⟩
def o1123_0 (P : Params) : Obj := ⟨.none, none, (.fields #[]), #[]⟩
def o1124_0 (P : Params) : Obj := ⟨(.type "tuple"), none, (.seq #[(vs "self" 2754), (vs "serial" 2755)] 0), #[]⟩
def o1125_0 (P : Params) : Obj := ⟨(.type "tuple"), none, (.seq #[] 0), #[]⟩
def o1126_0 (P : Params) : Obj := ⟨.none, none, (fO (mth 38 5) (sn "Binary.deserialize") [] .none .none .none .none none .none .none 0 0), #[]⟩
def o1127_0 (P : Params) : Obj := ⟨(.type "code"), none, (.fields #[(vs "deserialize" 2751), (vs "Binary.deserialize" 2752), (vs "/claim/cut.py" 2753), (vi 805), (vi 2), (vi 0), (vi 0), (vi 3), (vr 1122), (.bool true), (vi 317), (vr 1123), .none, (vr 1124), (vr 1125), (vr 1126), (vi 2756), (vi 805), (vs "/claim/cut.py" 2757)]), #[]⟩
def o1128_0 (P : Params) : Obj := ⟨(.type "function"), none, (fO (mth 38 5) (sn "Binary.deserialize") [] .none .none .none (vs "rlp.sedes.binary" 2670) none (vr 1127) .none 0 3), #[]⟩
def o1129_0 (P : Params) : Obj := ⟨(.type "tuple"), none, (.seq #[(vs "allow_empty" 2759), (vs "max_length" 2760), (vs "min_length" 2761)] 0), #[]⟩
def o1130_0 (P : Params) : Obj := ⟨(.type "dict"), none, (.dict #[de P "__module__" 2679 (vs "rlp.sedes.binary" 2670), de P "__firstlineno__" 2683 (.int 777 2682), de P "__init__" 2693 (vr 1086), de P "fixed_length" 2714 (vr 1096), de P "is_valid_type" 2734 (vr 1106), de P "is_valid_length" 2742 (vr 1114), de P "serialize" 2750 (vr 1121), de P "deserialize" 2758 (vr 1128), de P "__static_attributes__" 2762 (vr 1129), de P "__dict__" 2764 (vr 1132), de P "__weakref__" 2766 (vr 1133), de P "__doc__" 2767 .none] 4), #[]⟩
def o1131_0 (P : Params) : Obj := ⟨(.type "type"), none, (.cls { name := sn "Binary", bases := [(.type "object")], mro := [(vr 1131), (.type "object")], ns := 1130, qualname := sn "Binary", hasDict := true, slotNames := [], subclasses := [], abstract := false, collection := none, hasDel := false }), #[none, none, (some (vs "Binary" 2672)), (some (vs "Binary" 2680)), (some (.builtin "object.__new__")), (some (.bool true))]⟩
def o1132_0 (P : Params) : Obj := ⟨(.type "getset_descriptor"), none, (.fields #[(vs "__dict__" 2763), (vr 1131), (.builtin "function.__dict__"), (.builtin "function.__dict__#set")]), #[]⟩
def o1133_0 (P : Params) : Obj := ⟨(.type "getset_descriptor"), none, (.fields #[(vs "__weakref__" 2765), (vr 1131), (.builtin "ExceptionGroup.__weakref__"), .none]), #[]⟩
def o1134_0 (P : Params) : Obj := ⟨(.type "super"), none, (.fields #[(vr 1131), (vr 1131), (vr 1131)]), #[]⟩
def o1135_0 (P : Params) : Obj := ⟨(.type "builtin_function_or_method"), none, (.fields #[(.builtin "object.__init_subclass__"), (vr 1131)]), #[]⟩
def o1136_0 (P : Params) : Obj := ⟨(.type "dict"), none, (.dict #[de P "min_length" 2776 (.int 0 2774), de P "max_length" 2780 (.float 9218868437227405312 2778), de P "allow_empty" 2782 (.bool false)] 3), #[]⟩
def o1137_0 (P : Params) : Obj := ⟨(vr 1131), (some 1136), .plain, #[]⟩
def o1138_0 (P : Params) : Obj := ⟨(.type "frame"), none, (.dict #[de P "self" 2770 (vr 1137), de P "min_length" 2771 .none, de P "max_length" 2772 .none, de P "allow_empty" 2773 (.bool false)] 4), #[]⟩
def o1139_0 (P : Params) : Obj := ⟨(.type "tuple"), none, (.seq #[] 0), #[]⟩
def o1140_0 (P : Params) : Obj := ⟨(.type "builtin_function_or_method"), none, (.fields #[(.builtin "type.__prepare__"), (.type "type")]), #[]⟩
def o1141_0 (P : Params) : Obj := ⟨(.type "dict"), none, (.dict #[de P "__module__" 2793 (vs "rlp.sedes.boolean" 2784), de P "__qualname__" 2795 (vs "Boolean" 2794), de P "__firstlineno__" 2797 (.int 814 2796), de P "serialize" 2805 (vr 1152), de P "deserialize" 2813 (vr 1159), de P "__static_attributes__" 2814 (vr 1160)] 6), #[]⟩
def o1142_0 (P : Params) : Obj := ⟨(.type "tuple"), none, (.seq #[] 0), #[]⟩
def o1143_0 (P : Params) : Obj := ⟨.none, none, (.fields #[(vi 816), (vi 4), (vr 1151), (vi 826), (vi 4), (vr 1158)]), #[]⟩
def o1144_0 (P : Params) : Obj := ⟨(.type "code"), none, (.fields #[(vs "Boolean" 2788), (vs "Boolean" 2789), (vs "/claim/cut.py" 2790), (vi 814), (vi 0), (vi 0), (vi 0), (vi 0), (vr 1142), (.bool false), (vi 317), (vr 1143), .none, .none, .none, .none, (vi 2791), (vi 814), (vs "/claim/cut.py" 2792)]), #[]⟩
def o1145_0 (P : Params) : Obj := ⟨(.type "frame"), none, .plain, #[(some (vr 1144)), (some (vr 3)), (some (vr 1141)), none, (some (vs "rlp.sedes.boolean" 2784)), none, (some (vr 0))]⟩
def o1146_0 (P : Params) : Obj := ⟨(.type "tuple"), none, (.seq #[] 0), #[]⟩
def o1147_0 (P : Params) : Obj := ⟨.none, none, (.fields #[]), #[]⟩
def o1148_0 (P : Params) : Obj := ⟨(.type "tuple"), none, (.seq #[(vs "self" 2801), (vs "obj" 2802)] 0), #[]⟩
def o1149_0 (P : Params) : Obj := ⟨(.type "tuple"), none, (.seq #[] 0), #[]⟩
def o1150_0 (P : Params) : Obj := ⟨.none, none, (fO (mth 41 0) (sn "Boolean.serialize") [] .none .none .none .none none .none .none 0 0), #[]⟩
def o1151_0 (P : Params) : Obj := ⟨(.type "code"), none, (.fields #[(vs "serialize" 2798), (vs "Boolean.serialize" 2799), (vs "/claim/cut.py" 2800), (vi 816), (vi 2), (vi 0), (vi 0), (vi 3), (vr 1146), (.bool true), (vi 317), (vr 1147), .none, (vr 1148), (vr 1149), (vr 1150), (vi 2803), (vi 816), (vs "/claim/cut.py" 2804)]), #[]⟩
def o1152_0 (P : Params) : Obj := ⟨(.type "function"), none, (fO (mth 41 0) (sn "Boolean.serialize") [] .none .none .none (vs "rlp.sedes.boolean" 2784) none (vr 1151) .none 0 3), #[]⟩
def o1153_0 (P : Params) : Obj := ⟨(.type "tuple"), none, (.seq #[] 0), #[]⟩
def o1154_0 (P : Params) : Obj := ⟨.none, none, (.fields #[]), #[]⟩
def o1155_0 (P : Params) : Obj := ⟨(.type "tuple"), none, (.seq #[(vs "self" 2809), (vs "serial" 2810)] 0), #[]⟩
def o1156_0 (P : Params) : Obj := ⟨(.type "tuple"), none, (.seq #[] 0), #[]⟩
def o1157_0 (P : Params) : Obj := ⟨.none, none, (fO (mth 41 1) (sn "Boolean.deserialize") [] .none .none .none .none none .none .none 0 0), #[]⟩
def o1158_0 (P : Params) : Obj := ⟨(.type "code"), none, (.fields #[(vs "deserialize" 2806), (vs "Boolean.deserialize" 2807), (vs "/claim/cut.py" 2808), (vi 826), (vi 2), (vi 0), (vi 0), (vi 3), (vr 1153), (.bool true), (vi 317), (vr 1154), .none, (vr 1155), (vr 1156), (vr 1157), (vi 2811), (vi 826), (vs "/claim/cut.py" 2812)]), #[]⟩
def o1159_0 (P : Params) : Obj := ⟨(.type "function"), none, (fO (mth 41 1) (sn "Boolean.deserialize") [] .none .none .none (vs "rlp.sedes.boolean" 2784) none (vr 1158) .none 0 3), #[]⟩
def o1160_0 (P : Params) : Obj := ⟨(.type "tuple"), none, (.seq #[] 0), #[]⟩
def o1161_0 (P : Params) : Obj := ⟨(.type "dict"), none, (.dict #[de P "__module__" 2793 (vs "rlp.sedes.boolean" 2784), de P "__firstlineno__" 2797 (.int 814 2796), de P "serialize" 2805 (vr 1152), de P "deserialize" 2813 (vr 1159), de P "__static_attributes__" 2814 (vr 1160), de P "__dict__" 2816 (vr 1163), de P "__weakref__" 2818 (vr 1164), de P "__doc__" 2819 .none] 4), #[]⟩
def o1162_0 (P : Params) : Obj := ⟨(.type "type"), none, (.cls { name := sn "Boolean", bases := [(.type "object")], mro := [(vr 1162), (.type "object")], ns := 1161, qualname := sn "Boolean", hasDict := true, slotNames := [], subclasses := [], abstract := false, collection := none, hasDel := false }), #[none, none, (some (vs "Boolean" 2786)), (some (vs "Boolean" 2794)), (some (.builtin "object.__new__")), (some (.bool true))]⟩
def o1163_0 (P : Params) : Obj := ⟨(.type "getset_descriptor"), none, (.fields #[(vs "__dict__" 2815), (vr 1162), (.builtin "function.__dict__"), (.builtin "function.__dict__#set")]), #[]⟩
def o1164_0 (P : Params) : Obj := ⟨(.type "getset_descriptor"), none, (.fields #[(vs "__weakref__" 2817), (vr 1162), (.builtin "ExceptionGroup.__weakref__"), .none]), #[]⟩
def o1165_0 (P : Params) : Obj := ⟨(.type "super"), none, (.fields #[(vr 1162), (vr 1162), (vr 1162)]), #[]⟩
def o1166_0 (P : Params) : Obj := ⟨(.type "builtin_function_or_method"), none, (.fields #[(.builtin "object.__init_subclass__"), (vr 1162)]), #[]⟩
def o1167_0 (P : Params) : Obj := ⟨(.type "dict"), none, (.dict #[] 0), #[]⟩
def o1168_0 (P : Params) : Obj := ⟨(vr 1162), (some 1167), .plain, #[]⟩
def o1169_0 (P : Params) : Obj := ⟨(.type "tuple"), none, (.seq #[] 0), #[]⟩
def o1170_0 (P : Params) : Obj := ⟨.none, none, (.fields #[]), #[]⟩
def o1171_0 (P : Params) : Obj := ⟨(.type "tuple"), none, (.seq #[(vs "obj" 2828)] 0), #[]⟩
def o1172_0 (P : Params) : Obj := ⟨(.type "tuple"), none, (.seq #[] 0), #[]⟩
def o1173_0 (P : Params) : Obj := ⟨.none, none, (fO (topS 44) (sn "is_sedes") [] .none .none .none .none none .none .none 0 0), #[]⟩
def o1174_0 (P : Params) : Obj := ⟨(.type "code"), none, (.fields #[(vs "is_sedes" 2825), (vs "is_sedes" 2826), (vs "/claim/cut.py" 2827), (vi 835), (vi 1), (vi 0), (vi 0), (vi 3), (vr 1169), (.bool true), (vi 317), (vr 1170), .none, (vr 1171), (vr 1172), (vr 1173), (vi 2829), (vi 835), (vs "/claim/cut.py" 2830)]), #[]⟩
def o1175_0 (P : Params) : Obj := ⟨(.type "function"), none, (fO (topS 44) (sn "is_sedes") [] .none .none .none (vs "rlp.sedes.lists" 2823) none (vr 1174) .none 0 3), #[]⟩
def o1176_0 (P : Params) : Obj := ⟨(.type "tuple"), none, (.seq #[] 0), #[]⟩
def o1177_0 (P : Params) : Obj := ⟨.none, none, (.fields #[]), #[]⟩
def o1178_0 (P : Params) : Obj := ⟨(.type "tuple"), none, (.seq #[(vs "obj" 2835)] 0), #[]⟩
def o1179_0 (P : Params) : Obj := ⟨(.type "tuple"), none, (.seq #[] 0), #[]⟩
def o1180_0 (P : Params) : Obj := ⟨.none, none, (fO (topS 45) (sn "is_sequence") [] .none .none .none .none none .none .none 0 0), #[]⟩
def o1181_0 (P : Params) : Obj := ⟨(.type "code"), none, (.fields #[(vs "is_sequence" 2832), (vs "is_sequence" 2833), (vs "/claim/cut.py" 2834), (vi 837), (vi 1), (vi 0), (vi 0), (vi 3), (vr 1176), (.bool true), (vi 317), (vr 1177), .none, (vr 1178), (vr 1179), (vr 1180), (vi 2836), (vi 837), (vs "/claim/cut.py" 2837)]), #[]⟩
def o1182_0 (P : Params) : Obj := ⟨(.type "function"), none, (fO (topS 45) (sn "is_sequence") [] .none .none .none (vs "rlp.sedes.lists" 2823) none (vr 1181) .none 0 3), #[]⟩
def o1183_0 (P : Params) : Obj := ⟨(.type "tuple"), none, (.seq #[(.type "list")] 0), #[]⟩
def o1184_0 (P : Params) : Obj := ⟨(.type "builtin_function_or_method"), none, (.fields #[(.builtin "type.__prepare__"), (.type "type")]), #[]⟩
def o1185_0 (P : Params) : Obj := ⟨(.type "dict"), none, (.dict #[de P "__module__" 2846 (vs "rlp.sedes.lists" 2823), de P "__qualname__" 2848 (vs "List" 2847), de P "__firstlineno__" 2850 (.int 839 2849), de P "__init__" 2861 (vr 1199), de P "serialize" 2874 (vr 1206), de P "deserialize" 2887 (vr 1213), de P "__static_attributes__" 2889 (vr 1214), de P "__classcell__" 2890 (vr 1186)] 8), #[]⟩
def o1186_0 (P : Params) : Obj := ⟨(.type "cell"), none, (.cell (some (vr 1216))), #[]⟩
def o1187_0 (P : Params) : Obj := ⟨(.type "tuple"), none, (.seq #[] 0), #[]⟩
def o1188_0 (P : Params) : Obj := ⟨.none, none, (.fields #[(vi 841), (vi 4), (vr 1198), (vi 853), (vi 4), (vr 1205), (vi 866), (vi 4), (vr 1212)]), #[]⟩
def o1189_0 (P : Params) : Obj := ⟨(.type "code"), none, (.fields #[(vs "List" 2841), (vs "List" 2842), (vs "/claim/cut.py" 2843), (vi 839), (vi 0), (vi 0), (vi 0), (vi 0), (vr 1187), (.bool false), (vi 317), (vr 1188), .none, .none, .none, .none, (vi 2844), (vi 839), (vs "/claim/cut.py" 2845)]), #[]⟩
def o1190_0 (P : Params) : Obj := ⟨(.type "frame"), none, .plain, #[(some (vr 1189)), (some (vr 3)), (some (vr 1185)), none, (some (vs "rlp.sedes.lists" 2823)), none, (some (vr 0))]⟩
def o1191_0 (P : Params) : Obj := ⟨(.type "tuple"), none, (.seq #[.none, (.bool true)] 0), #[]⟩
def o1192_0 (P : Params) : Obj := ⟨(.type "tuple"), none, (.seq #[(vr 1186)] 0), #[]⟩
def o1193_0 (P : Params) : Obj := ⟨(.type "tuple"), none, (.seq #[(vs "__class__" 2854)] 0), #[]⟩
def o1194_0 (P : Params) : Obj := ⟨.none, none, (.fields #[]), #[]⟩
def o1195_0 (P : Params) : Obj := ⟨(.type "tuple"), none, (.seq #[(vs "self" 2855), (vs "elements" 2856), (vs "strict" 2857), (vs "e" 2858)] 0), #[]⟩
def o1196_0 (P : Params) : Obj := ⟨(.type "tuple"), none, (.seq #[] 0), #[]⟩
def o1197_0 (P : Params) : Obj := ⟨.none, none, (fO (mth 46 0) (sn "List.__init__") [] .none .none .none .none none .none .none 0 0), #[]⟩
def o1198_0 (P : Params) : Obj := ⟨(.type "code"), none, (.fields #[(vs "__init__" 2851), (vs "List.__init__" 2852), (vs "/claim/cut.py" 2853), (vi 841), (vi 3), (vi 0), (vi 0), (vi 3), (vr 1193), (.bool true), (vi 317), (vr 1194), .none, (vr 1195), (vr 1196), (vr 1197), (vi 2859), (vi 841), (vs "/claim/cut.py" 2860)]), #[]⟩
def o1199_0 (P : Params) : Obj := ⟨(.type "function"), none, (fO (mth 46 0) (sn "List.__init__") [(sn "__class__", 1186)] (vr 1191) .none .none (vs "rlp.sedes.lists" 2823) none (vr 1198) (vr 1192) 0 3), #[]⟩
def o1200_0 (P : Params) : Obj := ⟨(.type "tuple"), none, (.seq #[] 0), #[]⟩
def o1201_0 (P : Params) : Obj := ⟨.none, none, (.fields #[]), #[]⟩
def o1202_0 (P : Params) : Obj := ⟨(.type "tuple"), none, (.seq #[(vs "self" 2865), (vs "obj" 2866), (vs "found" 2867), (vs "index" 2868), (vs "element" 2869), (vs "sedes" 2870), (vs "e" 2871)] 0), #[]⟩
def o1203_0 (P : Params) : Obj := ⟨(.type "tuple"), none, (.seq #[] 0), #[]⟩
def o1204_0 (P : Params) : Obj := ⟨.none, none, (fO (mth 46 1) (sn "List.serialize") [] .none .none .none .none none .none .none 0 0), #[]⟩
def o1205_0 (P : Params) : Obj := ⟨(.type "code"), none, (.fields #[(vs "serialize" 2862), (vs "List.serialize" 2863), (vs "/claim/cut.py" 2864), (vi 853), (vi 2), (vi 0), (vi 0), (vi 3), (vr 1200), (.bool true), (vi 317), (vr 1201), .none, (vr 1202), (vr 1203), (vr 1204), (vi 2872), (vi 853), (vs "/claim/cut.py" 2873)]), #[]⟩
def o1206_0 (P : Params) : Obj := ⟨(.type "function"), none, (fO (mth 46 1) (sn "List.serialize") [] .none .none .none (vs "rlp.sedes.lists" 2823) none (vr 1205) .none 0 3), #[]⟩
def o1207_0 (P : Params) : Obj := ⟨(.type "tuple"), none, (.seq #[] 0), #[]⟩
def o1208_0 (P : Params) : Obj := ⟨.none, none, (.fields #[]), #[]⟩
def o1209_0 (P : Params) : Obj := ⟨(.type "tuple"), none, (.seq #[(vs "self" 2878), (vs "serial" 2879), (vs "found" 2880), (vs "idx" 2881), (vs "sedes" 2882), (vs "element" 2883), (vs "e" 2884)] 0), #[]⟩
def o1210_0 (P : Params) : Obj := ⟨(.type "tuple"), none, (.seq #[] 0), #[]⟩
def o1211_0 (P : Params) : Obj := ⟨.none, none, (fO (mth 46 2) (sn "List.deserialize") [] .none .none .none .none none .none .none 0 0), #[]⟩
def o1212_0 (P : Params) : Obj := ⟨(.type "code"), none, (.fields #[(vs "deserialize" 2875), (vs "List.deserialize" 2876), (vs "/claim/cut.py" 2877), (vi 866), (vi 2), (vi 0), (vi 0), (vi 3), (vr 1207), (.bool true), (vi 317), (vr 1208), .none, (vr 1209), (vr 1210), (vr 1211), (vi 2885), (vi 866), (vs "/claim/cut.py" 2886)]), #[]⟩
def o1213_0 (P : Params) : Obj := ⟨(.type "function"), none, (fO (mth 46 2) (sn "List.deserialize") [] .none .none .none (vs "rlp.sedes.lists" 2823) none (vr 1212) .none 0 3), #[]⟩
def o1214_0 (P : Params) : Obj := ⟨(.type "tuple"), none, (.seq #[(vs "strict" 2888)] 0), #[]⟩
def o1215_0 (P : Params) : Obj := ⟨(.type "dict"), none, (.dict #[de P "__module__" 2846 (vs "rlp.sedes.lists" 2823), de P "__firstlineno__" 2850 (.int 839 2849), de P "__init__" 2861 (vr 1199), de P "serialize" 2874 (vr 1206), de P "deserialize" 2887 (vr 1213), de P "__static_attributes__" 2889 (vr 1214), de P "__dict__" 2892 (vr 1217), de P "__weakref__" 2894 (vr 1218), de P "__doc__" 2895 .none] 5), #[]⟩
def o1216_0 (P : Params) : Obj := ⟨(.type "type"), none, (.cls { name := sn "List", bases := [(.type "list")], mro := [(vr 1216), (.type "list"), (.type "object")], ns := 1215, qualname := sn "List", hasDict := true, slotNames := [], subclasses := [], abstract := false, collection := none, hasDel := false }), #[(some (vr 1183)), none, (some (vs "List" 2839)), (some (vs "List" 2847)), (some (.builtin "list.__new__")), (some (.bool true))]⟩
def o1217_0 (P : Params) : Obj := ⟨(.type "getset_descriptor"), none, (.fields #[(vs "__dict__" 2891), (vr 1216), (.builtin "function.__dict__"), (.builtin "function.__dict__#set")]), #[]⟩
def o1218_0 (P : Params) : Obj := ⟨(.type "getset_descriptor"), none, (.fields #[(vs "__weakref__" 2893), (vr 1216), (.builtin "ExceptionGroup.__weakref__"), .none]), #[]⟩
def o1219_0 (P : Params) : Obj := ⟨(.type "super"), none, (.fields #[(vr 1216), (vr 1216), (vr 1216)]), #[]⟩
def o1220_0 (P : Params) : Obj := ⟨(.type "builtin_function_or_method"), none, (.fields #[(.builtin "object.__init_subclass__"), (vr 1216)]), #[]⟩
def o1221_0 (P : Params) : Obj := ⟨(.type "tuple"), none, (.seq #[] 0), #[]⟩
def o1222_0 (P : Params) : Obj := ⟨.none, none, (.fields #[]), #[]⟩
def o1223_0 (P : Params) : Obj := ⟨(.type "tuple"), none, (.seq #[(vs "item" 2903), (vs "payload" 2904), (vs "prefix_offset" 2905), (vs "msg" 2906), (vs "prefix" 2907)] 0), #[]⟩
def o1224_0 (P : Params) : Obj := ⟨(.type "tuple"), none, (.seq #[] 0), #[]⟩
def o1225_0 (P : Params) : Obj := ⟨.none, none, (fO (topS 48) (sn "encode_raw") [] .none .none .none .none none .none .none 0 0), #[]⟩
def o1226_0 (P : Params) : Obj := ⟨(.type "code"), none, (.fields #[(vs "encode_raw" 2900), (vs "encode_raw" 2901), (vs "/claim/cut.py" 2902), (vi 879), (vi 1), (vi 0), (vi 0), (vi 3), (vr 1221), (.bool true), (vi 317), (vr 1222), .none, (vr 1223), (vr 1224), (vr 1225), (vi 2908), (vi 879), (vs "/claim/cut.py" 2909)]), #[]⟩
def o1227_0 (P : Params) : Obj := ⟨(.type "function"), none, (fO (topS 48) (sn "encode_raw") [] .none .none .none (vs "rlp.codec" 2898) none (vr 1226) .none 0 3), #[]⟩
def o1228_0 (P : Params) : Obj := ⟨(.type "tuple"), none, (.seq #[.none, (.bool true), (.bool true)] 0), #[]⟩
def o1229_0 (P : Params) : Obj := ⟨(.type "tuple"), none, (.seq #[] 0), #[]⟩
def o1230_0 (P : Params) : Obj := ⟨.none, none, (.fields #[]), #[]⟩
def o1231_0 (P : Params) : Obj := ⟨(.type "tuple"), none, (.seq #[(vs "obj" 2914), (vs "sedes" 2915), (vs "infer_serializer" 2916), (vs "cache" 2917), (vs "item" 2918), (vs "result" 2919)] 0), #[]⟩
def o1232_0 (P : Params) : Obj := ⟨(.type "tuple"), none, (.seq #[] 0), #[]⟩
def o1233_0 (P : Params) : Obj := ⟨.none, none, (fO (topS 49) (sn "encode") [] .none .none .none .none none .none .none 0 0), #[]⟩
def o1234_0 (P : Params) : Obj := ⟨(.type "code"), none, (.fields #[(vs "encode" 2911), (vs "encode" 2912), (vs "/claim/cut.py" 2913), (vi 896), (vi 4), (vi 0), (vi 0), (vi 3), (vr 1229), (.bool true), (vi 317), (vr 1230), .none, (vr 1231), (vr 1232), (vr 1233), (vi 2920), (vi 896), (vs "/claim/cut.py" 2921)]), #[]⟩
def o1235_0 (P : Params) : Obj := ⟨(.type "function"), none, (fO (topS 49) (sn "encode") [] (vr 1228) .none .none (vs "rlp.codec" 2898) none (vr 1234) .none 0 3), #[]⟩
def o1236_0 (P : Params) : Obj := ⟨(.type "tuple"), none, (.seq #[] 0), #[]⟩
def o1237_0 (P : Params) : Obj := ⟨.none, none, (.fields #[]), #[]⟩
def o1238_0 (P : Params) : Obj := ⟨(.type "tuple"), none, (.seq #[(vs "length" 2930), (vs "offset" 2931), (vs "length_string" 2932)] 0), #[]⟩
def o1239_0 (P : Params) : Obj := ⟨(.type "tuple"), none, (.seq #[] 0), #[]⟩
def o1240_0 (P : Params) : Obj := ⟨.none, none, (fO (topS 51) (sn "length_prefix") [] .none .none .none .none none .none .none 0 0), #[]⟩
def o1241_0 (P : Params) : Obj := ⟨(.type "code"), none, (.fields #[(vs "length_prefix" 2927), (vs "length_prefix" 2928), (vs "/claim/cut.py" 2929), (vi 906), (vi 2), (vi 0), (vi 0), (vi 3), (vr 1236), (.bool true), (vi 317), (vr 1237), .none, (vr 1238), (vr 1239), (vr 1240), (vi 2933), (vi 906), (vs "/claim/cut.py" 2934)]), #[]⟩
def o1242_0 (P : Params) : Obj := ⟨(.type "function"), none, (fO (topS 51) (sn "length_prefix") [] .none .none .none (vs "rlp.codec" 2898) none (vr 1241) .none 0 3), #[]⟩
def o1243_0 (P : Params) : Obj := ⟨(.type "tuple"), none, (.seq #[] 0), #[]⟩
def o1244_0 (P : Params) : Obj := ⟨.none, none, (.fields #[]), #[]⟩
def o1245_0 (P : Params) : Obj := ⟨(.type "tuple"), none, (.seq #[(vs "obj" 2939), (vs "msg" 2940)] 0), #[]⟩
def o1246_0 (P : Params) : Obj := ⟨(.type "tuple"), none, (.seq #[] 0), #[]⟩
def o1247_0 (P : Params) : Obj := ⟨.none, none, (fO (topS 52) (sn "infer_sedes") [] .none .none .none .none none .none .none 0 0), #[]⟩
def o1248_0 (P : Params) : Obj := ⟨(.type "code"), none, (.fields #[(vs "infer_sedes" 2936), (vs "infer_sedes" 2937), (vs "/claim/cut.py" 2938), (vi 914), (vi 1), (vi 0), (vi 0), (vi 3), (vr 1243), (.bool true), (vi 317), (vr 1244), .none, (vr 1245), (vr 1246), (vr 1247), (vi 2941), (vi 914), (vs "/claim/cut.py" 2942)]), #[]⟩
def o1249_0 (P : Params) : Obj := ⟨(.type "function"), none, (fO (topS 52) (sn "infer_sedes") [] .none .none .none (vs "rlp.codec" 2898) none (vr 1248) .none 0 3), #[]⟩
def o1250_0 (P : Params) : Obj := ⟨(.type "tuple"), none, (.seq #[] 0), #[]⟩
def o1251_0 (P : Params) : Obj := ⟨.none, none, (.fields #[]), #[]⟩
def o1252_0 (P : Params) : Obj := ⟨(.type "tuple"), none, (.seq #[(vs "number" 2949), (vs "rest" 2950), (vs "value" 2951)] 0), #[]⟩
def o1253_0 (P : Params) : Obj := ⟨(.type "tuple"), none, (.seq #[] 0), #[]⟩
def o1254_0 (P : Params) : Obj := ⟨.none, none, (fO (topS 54) (sn "_law_number") [] .none .none .none .none none .none .none 0 0), #[]⟩
def o1255_0 (P : Params) : Obj := ⟨(.type "code"), none, (.fields #[(vs "_law_number" 2946), (vs "_law_number" 2947), (vs "/claim/cut.py" 2948), (vi 928), (vi 1), (vi 0), (vi 0), (vi 3), (vr 1250), (.bool true), (vi 317), (vr 1251), .none, (vr 1252), (vr 1253), (vr 1254), (vi 2952), (vi 928), (vs "/claim/cut.py" 2953)]), #[]⟩
def o1256_0 (P : Params) : Obj := ⟨(.type "function"), none, (fO (topS 54) (sn "_law_number") [] .none .none .none (vs "law_vn0026_01" 2944) none (vr 1255) .none 0 3), #[]⟩
def o1257_0 (P : Params) : Obj := ⟨(.type "tuple"), none, (.seq #[] 0), #[]⟩
def o1258_0 (P : Params) : Obj := ⟨.none, none, (.fields #[]), #[]⟩
def o1259_0 (P : Params) : Obj := ⟨.none, none, (fO (topS 55) (sn "_law_place") [] .none .none .none .none none .none .none 0 0), #[]⟩
def o1260_0 (P : Params) : Obj := ⟨(.type "code"), none, (.fields #[(vs "_law_place" 2955), (vs "_law_place" 2956), (vs "/claim/cut.py" 2957), (vi 932), (vi 1), (vi 0), (vi 0), (vi 3), (vr 1257), (.bool true), (vi 317), (vr 1258), .none, .none, .none, (vr 1259), (vi 2958), (vi 932), (vs "/claim/cut.py" 2959)]), #[]⟩
def o1261_0 (P : Params) : Obj := ⟨(.type "function"), none, (fO (topS 55) (sn "_law_place") [] .none .none .none (vs "law_vn0026_01" 2944) none (vr 1260) .none 0 3), #[]⟩
def o1262_0 (P : Params) : Obj := ⟨(.type "tuple"), none, (.seq #[] 0), #[]⟩
def o1263_0 (P : Params) : Obj := ⟨.none, none, (.fields #[]), #[]⟩
def o1264_0 (P : Params) : Obj := ⟨.none, none, (fO (topS 56) (sn "law") [] .none .none .none .none none .none .none 0 0), #[]⟩
def o1265_0 (P : Params) : Obj := ⟨(.type "code"), none, (.fields #[(vs "law" 2961), (vs "law" 2962), (vs "/claim/cut.py" 2963), (vi 938), (vi 1), (vi 0), (vi 0), (vi 3), (vr 1262), (.bool true), (vi 317), (vr 1263), .none, .none, .none, (vr 1264), (vi 2964), (vi 938), (vs "/claim/cut.py" 2965)]), #[]⟩
def o1266_0 (P : Params) : Obj := ⟨(.type "function"), none, (fO (topS 56) (sn "law") [] .none .none .none (vs "law_vn0026_01" 2944) none (vr 1265) .none 0 3), #[]⟩
def trF (P : Params) : BT := (.node (o0_0 P) (.node (o1_0 P) (.node (o3_4 P) (.node (o7_0 P) (.node (o15_0 P) (.node (o31_0 P) (.node (o63_0 P) (.node (o127_0 P) (.node (o255_0 P) (.node (o511_0 P) (.node (o1023_0 P) .nil .nil) .nil) (.node (o767_0 P) .nil .nil)) (.node (o383_0 P) (.node (o639_0 P) (.node (o1151_0 P) .nil .nil) .nil) (.node (o895_0 P) .nil .nil))) (.node (o191_0 P) (.node (o319_0 P) (.node (o575_0 P) (.node (o1087_0 P) .nil .nil) .nil) (.node (o831_0 P) .nil .nil)) (.node (o447_0 P) (.node (o703_0 P) (.node (o1215_0 P) .nil .nil) .nil) (.node (o959_0 P) .nil .nil)))) (.node (o95_0 P) (.node (o159_0 P) (.node (o287_0 P) (.node (o543_0 P) (.node (o1055_0 P) .nil .nil) .nil) (.node (o799_0 P) .nil .nil)) (.node (o415_0 P) (.node (o671_0 P) (.node (o1183_0 P) .nil .nil) .nil) (.node (o927_0 P) .nil .nil))) (.node (o223_0 P) (.node (o351_0 P) (.node (o607_0 P) (.node (o1119_0 P) .nil .nil) .nil) (.node (o863_0 P) .nil .nil)) (.node (o479_0 P) (.node (o735_0 P) (.node (o1247_0 P) .nil .nil) .nil) (.node (o991_0 P) .nil .nil))))) (.node (o47_0 P) (.node (o79_0 P) (.node (o143_0 P) (.node (o271_0 P) (.node (o527_0 P) (.node (o1039_0 P) .nil .nil) .nil) (.node (o783_0 P) .nil .nil)) (.node (o399_0 P) (.node (o655_0 P) (.node (o1167_0 P) .nil .nil) .nil) (.node (o911_0 P) .nil .nil))) (.node (o207_0 P) (.node (o335_0 P) (.node (o591_0 P) (.node (o1103_0 P) .nil .nil) .nil) (.node (o847_0 P) .nil .nil)) (.node (o463_0 P) (.node (o719_0 P) (.node (o1231_0 P) .nil .nil) .nil) (.node (o975_0 P) .nil .nil)))) (.node (o111_0 P) (.node (o175_0 P) (.node (o303_0 P) (.node (o559_0 P) (.node (o1071_0 P) .nil .nil) .nil) (.node (o815_0 P) .nil .nil)) (.node (o431_0 P) (.node (o687_0 P) (.node (o1199_0 P) .nil .nil) .nil) (.node (o943_0 P) .nil .nil))) (.node (o239_0 P) (.node (o367_0 P) (.node (o623_0 P) (.node (o1135_0 P) .nil .nil) .nil) (.node (o879_0 P) .nil .nil)) (.node (o495_0 P) (.node (o751_0 P) (.node (o1263_0 P) .nil .nil) .nil) (.node (o1007_0 P) .nil .nil)))))) (.node (o23_0 P) (.node (o39_0 P) (.node (o71_0 P) (.node (o135_0 P) (.node (o263_0 P) (.node (o519_0 P) (.node (o1031_0 P) .nil .nil) .nil) (.node (o775_0 P) .nil .nil)) (.node (o391_0 P) (.node (o647_0 P) (.node (o1159_0 P) .nil .nil) .nil) (.node (o903_0 P) .nil .nil))) (.node (o199_0 P) (.node (o327_0 P) (.node (o583_0 P) (.node (o1095_0 P) .nil .nil) .nil) (.node (o839_0 P) .nil .nil)) (.node (o455_0 P) (.node (o711_0 P) (.node (o1223_0 P) .nil .nil) .nil) (.node (o967_0 P) .nil .nil)))) (.node (o103_0 P) (.node (o167_0 P) (.node (o295_0 P) (.node (o551_0 P) (.node (o1063_0 P) .nil .nil) .nil) (.node (o807_0 P) .nil .nil)) (.node (o423_0 P) (.node (o679_0 P) (.node (o1191_0 P) .nil .nil) .nil) (.node (o935_0 P) .nil .nil))) (.node (o231_0 P) (.node (o359_0 P) (.node (o615_0 P) (.node (o1127_0 P) .nil .nil) .nil) (.node (o871_0 P) .nil .nil)) (.node (o487_0 P) (.node (o743_0 P) (.node (o1255_0 P) .nil .nil) .nil) (.node (o999_0 P) .nil .nil))))) (.node (o55_0 P) (.node (o87_0 P) (.node (o151_0 P) (.node (o279_0 P) (.node (o535_0 P) (.node (o1047_0 P) .nil .nil) .nil) (.node (o791_0 P) .nil .nil)) (.node (o407_0 P) (.node (o663_0 P) (.node (o1175_0 P) .nil .nil) .nil) (.node (o919_0 P) .nil .nil))) (.node (o215_0 P) (.node (o343_0 P) (.node (o599_0 P) (.node (o1111_0 P) .nil .nil) .nil) (.node (o855_0 P) .nil .nil)) (.node (o471_0 P) (.node (o727_0 P) (.node (o1239_0 P) .nil .nil) .nil) (.node (o983_0 P) .nil .nil)))) (.node (o119_0 P) (.node (o183_0 P) (.node (o311_0 P) (.node (o567_0 P) (.node (o1079_0 P) .nil .nil) .nil) (.node (o823_0 P) .nil .nil)) (.node (o439_0 P) (.node (o695_0 P) (.node (o1207_0 P) .nil .nil) .nil) (.node (o951_0 P) .nil .nil))) (.node (o247_0 P) (.node (o375_0 P) (.node (o631_0 P) (.node (o1143_0 P) .nil .nil) .nil) (.node (o887_0 P) .nil .nil)) (.node (o503_0 P) (.node (o759_0 P) .nil .nil) (.node (o1015_0 P) .nil .nil))))))) (.node (o11_0 P) (.node (o19_0 P) (.node (o35_0 P) (.node (o67_0 P) (.node (o131_0 P) (.node (o259_0 P) (.node (o515_0 P) (.node (o1027_0 P) .nil .nil) .nil) (.node (o771_0 P) .nil .nil)) (.node (o387_0 P) (.node (o643_0 P) (.node (o1155_0 P) .nil .nil) .nil) (.node (o899_0 P) .nil .nil))) (.node (o195_0 P) (.node (o323_0 P) (.node (o579_0 P) (.node (o1091_0 P) .nil .nil) .nil) (.node (o835_0 P) .nil .nil)) (.node (o451_0 P) (.node (o707_0 P) (.node (o1219_0 P) .nil .nil) .nil) (.node (o963_0 P) .nil .nil)))) (.node (o99_0 P) (.node (o163_0 P) (.node (o291_0 P) (.node (o547_0 P) (.node (o1059_0 P) .nil .nil) .nil) (.node (o803_0 P) .nil .nil)) (.node (o419_0 P) (.node (o675_0 P) (.node (o1187_0 P) .nil .nil) .nil) (.node (o931_0 P) .nil .nil))) (.node (o227_0 P) (.node (o355_0 P) (.node (o611_0 P) (.node (o1123_0 P) .nil .nil) .nil) (.node (o867_0 P) .nil .nil)) (.node (o483_0 P) (.node (o739_0 P) (.node (o1251_0 P) .nil .nil) .nil) (.node (o995_0 P) .nil .nil))))) (.node (o51_0 P) (.node (o83_0 P) (.node (o147_0 P) (.node (o275_0 P) (.node (o531_0 P) (.node (o1043_0 P) .nil .nil) .nil) (.node (o787_0 P) .nil .nil)) (.node (o403_0 P) (.node (o659_0 P) (.node (o1171_0 P) .nil .nil) .nil) (.node (o915_0 P) .nil .nil))) (.node (o211_0 P) (.node (o339_0 P) (.node (o595_0 P) (.node (o1107_0 P) .nil .nil) .nil) (.node (o851_0 P) .nil .nil)) (.node (o467_0 P) (.node (o723_0 P) (.node (o1235_0 P) .nil .nil) .nil) (.node (o979_0 P) .nil .nil)))) (.node (o115_0 P) (.node (o179_0 P) (.node (o307_0 P) (.node (o563_0 P) (.node (o1075_0 P) .nil .nil) .nil) (.node (o819_0 P) .nil .nil)) (.node (o435_0 P) (.node (o691_0 P) (.node (o1203_0 P) .nil .nil) .nil) (.node (o947_0 P) .nil .nil))) (.node (o243_0 P) (.node (o371_0 P) (.node (o627_0 P) (.node (o1139_0 P) .nil .nil) .nil) (.node (o883_0 P) .nil .nil)) (.node (o499_0 P) (.node (o755_0 P) .nil .nil) (.node (o1011_1 P) .nil .nil)))))) (.node (o27_0 P) (.node (o43_0 P) (.node (o75_0 P) (.node (o139_0 P) (.node (o267_0 P) (.node (o523_0 P) (.node (o1035_0 P) .nil .nil) .nil) (.node (o779_0 P) .nil .nil)) (.node (o395_0 P) (.node (o651_0 P) (.node (o1163_0 P) .nil .nil) .nil) (.node (o907_0 P) .nil .nil))) (.node (o203_0 P) (.node (o331_0 P) (.node (o587_0 P) (.node (o1099_0 P) .nil .nil) .nil) (.node (o843_0 P) .nil .nil)) (.node (o459_0 P) (.node (o715_0 P) (.node (o1227_0 P) .nil .nil) .nil) (.node (o971_0 P) .nil .nil)))) (.node (o107_0 P) (.node (o171_0 P) (.node (o299_0 P) (.node (o555_0 P) (.node (o1067_0 P) .nil .nil) .nil) (.node (o811_0 P) .nil .nil)) (.node (o427_0 P) (.node (o683_0 P) (.node (o1195_0 P) .nil .nil) .nil) (.node (o939_0 P) .nil .nil))) (.node (o235_0 P) (.node (o363_0 P) (.node (o619_0 P) (.node (o1131_0 P) .nil .nil) .nil) (.node (o875_0 P) .nil .nil)) (.node (o491_0 P) (.node (o747_0 P) (.node (o1259_0 P) .nil .nil) .nil) (.node (o1003_0 P) .nil .nil))))) (.node (o59_0 P) (.node (o91_0 P) (.node (o155_0 P) (.node (o283_0 P) (.node (o539_0 P) (.node (o1051_0 P) .nil .nil) .nil) (.node (o795_0 P) .nil .nil)) (.node (o411_0 P) (.node (o667_0 P) (.node (o1179_0 P) .nil .nil) .nil) (.node (o923_0 P) .nil .nil))) (.node (o219_0 P) (.node (o347_0 P) (.node (o603_0 P) (.node (o1115_0 P) .nil .nil) .nil) (.node (o859_0 P) .nil .nil)) (.node (o475_0 P) (.node (o731_0 P) (.node (o1243_0 P) .nil .nil) .nil) (.node (o987_0 P) .nil .nil)))) (.node (o123_0 P) (.node (o187_0 P) (.node (o315_0 P) (.node (o571_0 P) (.node (o1083_0 P) .nil .nil) .nil) (.node (o827_0 P) .nil .nil)) (.node (o443_0 P) (.node (o699_0 P) (.node (o1211_0 P) .nil .nil) .nil) (.node (o955_0 P) .nil .nil))) (.node (o251_0 P) (.node (o379_0 P) (.node (o635_0 P) (.node (o1147_0 P) .nil .nil) .nil) (.node (o891_0 P) .nil .nil)) (.node (o507_0 P) (.node (o763_0 P) .nil .nil) (.node (o1019_0 P) .nil .nil)))))))) (.node (o5_0 P) (.node (o9_0 P) (.node (o17_0 P) (.node (o33_0 P) (.node (o65_0 P) (.node (o129_0 P) (.node (o257_0 P) (.node (o513_0 P) (.node (o1025_0 P) .nil .nil) .nil) (.node (o769_0 P) .nil .nil)) (.node (o385_0 P) (.node (o641_0 P) (.node (o1153_0 P) .nil .nil) .nil) (.node (o897_0 P) .nil .nil))) (.node (o193_0 P) (.node (o321_0 P) (.node (o577_0 P) (.node (o1089_0 P) .nil .nil) .nil) (.node (o833_0 P) .nil .nil)) (.node (o449_0 P) (.node (o705_0 P) (.node (o1217_0 P) .nil .nil) .nil) (.node (o961_0 P) .nil .nil)))) (.node (o97_0 P) (.node (o161_0 P) (.node (o289_1 P) (.node (o545_0 P) (.node (o1057_0 P) .nil .nil) .nil) (.node (o801_0 P) .nil .nil)) (.node (o417_0 P) (.node (o673_0 P) (.node (o1185_0 P) .nil .nil) .nil) (.node (o929_0 P) .nil .nil))) (.node (o225_0 P) (.node (o353_0 P) (.node (o609_0 P) (.node (o1121_0 P) .nil .nil) .nil) (.node (o865_0 P) .nil .nil)) (.node (o481_0 P) (.node (o737_0 P) (.node (o1249_0 P) .nil .nil) .nil) (.node (o993_0 P) .nil .nil))))) (.node (o49_0 P) (.node (o81_0 P) (.node (o145_0 P) (.node (o273_0 P) (.node (o529_0 P) (.node (o1041_0 P) .nil .nil) .nil) (.node (o785_0 P) .nil .nil)) (.node (o401_0 P) (.node (o657_0 P) (.node (o1169_0 P) .nil .nil) .nil) (.node (o913_0 P) .nil .nil))) (.node (o209_0 P) (.node (o337_0 P) (.node (o593_0 P) (.node (o1105_0 P) .nil .nil) .nil) (.node (o849_0 P) .nil .nil)) (.node (o465_0 P) (.node (o721_0 P) (.node (o1233_0 P) .nil .nil) .nil) (.node (o977_0 P) .nil .nil)))) (.node (o113_0 P) (.node (o177_0 P) (.node (o305_0 P) (.node (o561_0 P) (.node (o1073_0 P) .nil .nil) .nil) (.node (o817_0 P) .nil .nil)) (.node (o433_0 P) (.node (o689_0 P) (.node (o1201_0 P) .nil .nil) .nil) (.node (o945_0 P) .nil .nil))) (.node (o241_0 P) (.node (o369_0 P) (.node (o625_0 P) (.node (o1137_0 P) .nil .nil) .nil) (.node (o881_0 P) .nil .nil)) (.node (o497_0 P) (.node (o753_0 P) (.node (o1265_0 P) .nil .nil) .nil) (.node (o1009_1 P) .nil .nil)))))) (.node (o25_0 P) (.node (o41_0 P) (.node (o73_0 P) (.node (o137_0 P) (.node (o265_0 P) (.node (o521_0 P) (.node (o1033_0 P) .nil .nil) .nil) (.node (o777_0 P) .nil .nil)) (.node (o393_0 P) (.node (o649_0 P) (.node (o1161_0 P) .nil .nil) .nil) (.node (o905_0 P) .nil .nil))) (.node (o201_0 P) (.node (o329_0 P) (.node (o585_0 P) (.node (o1097_0 P) .nil .nil) .nil) (.node (o841_0 P) .nil .nil)) (.node (o457_0 P) (.node (o713_0 P) (.node (o1225_0 P) .nil .nil) .nil) (.node (o969_0 P) .nil .nil)))) (.node (o105_0 P) (.node (o169_0 P) (.node (o297_0 P) (.node (o553_0 P) (.node (o1065_0 P) .nil .nil) .nil) (.node (o809_0 P) .nil .nil)) (.node (o425_0 P) (.node (o681_0 P) (.node (o1193_0 P) .nil .nil) .nil) (.node (o937_0 P) .nil .nil))) (.node (o233_0 P) (.node (o361_0 P) (.node (o617_0 P) (.node (o1129_0 P) .nil .nil) .nil) (.node (o873_0 P) .nil .nil)) (.node (o489_0 P) (.node (o745_0 P) (.node (o1257_0 P) .nil .nil) .nil) (.node (o1001_0 P) .nil .nil))))) (.node (o57_0 P) (.node (o89_0 P) (.node (o153_0 P) (.node (o281_0 P) (.node (o537_0 P) (.node (o1049_0 P) .nil .nil) .nil) (.node (o793_0 P) .nil .nil)) (.node (o409_0 P) (.node (o665_0 P) (.node (o1177_0 P) .nil .nil) .nil) (.node (o921_0 P) .nil .nil))) (.node (o217_0 P) (.node (o345_0 P) (.node (o601_0 P) (.node (o1113_0 P) .nil .nil) .nil) (.node (o857_0 P) .nil .nil)) (.node (o473_0 P) (.node (o729_0 P) (.node (o1241_0 P) .nil .nil) .nil) (.node (o985_0 P) .nil .nil)))) (.node (o121_0 P) (.node (o185_0 P) (.node (o313_0 P) (.node (o569_0 P) (.node (o1081_0 P) .nil .nil) .nil) (.node (o825_0 P) .nil .nil)) (.node (o441_0 P) (.node (o697_0 P) (.node (o1209_0 P) .nil .nil) .nil) (.node (o953_0 P) .nil .nil))) (.node (o249_0 P) (.node (o377_0 P) (.node (o633_0 P) (.node (o1145_0 P) .nil .nil) .nil) (.node (o889_0 P) .nil .nil)) (.node (o505_0 P) (.node (o761_0 P) .nil .nil) (.node (o1017_0 P) .nil .nil))))))) (.node (o13_0 P) (.node (o21_0 P) (.node (o37_0 P) (.node (o69_0 P) (.node (o133_0 P) (.node (o261_0 P) (.node (o517_0 P) (.node (o1029_0 P) .nil .nil) .nil) (.node (o773_0 P) .nil .nil)) (.node (o389_0 P) (.node (o645_0 P) (.node (o1157_0 P) .nil .nil) .nil) (.node (o901_0 P) .nil .nil))) (.node (o197_0 P) (.node (o325_0 P) (.node (o581_0 P) (.node (o1093_0 P) .nil .nil) .nil) (.node (o837_0 P) .nil .nil)) (.node (o453_0 P) (.node (o709_0 P) (.node (o1221_0 P) .nil .nil) .nil) (.node (o965_0 P) .nil .nil)))) (.node (o101_0 P) (.node (o165_0 P) (.node (o293_0 P) (.node (o549_0 P) (.node (o1061_0 P) .nil .nil) .nil) (.node (o805_0 P) .nil .nil)) (.node (o421_0 P) (.node (o677_0 P) (.node (o1189_0 P) .nil .nil) .nil) (.node (o933_0 P) .nil .nil))) (.node (o229_0 P) (.node (o357_0 P) (.node (o613_0 P) (.node (o1125_0 P) .nil .nil) .nil) (.node (o869_0 P) .nil .nil)) (.node (o485_0 P) (.node (o741_0 P) (.node (o1253_0 P) .nil .nil) .nil) (.node (o997_0 P) .nil .nil))))) (.node (o53_0 P) (.node (o85_0 P) (.node (o149_0 P) (.node (o277_0 P) (.node (o533_0 P) (.node (o1045_0 P) .nil .nil) .nil) (.node (o789_0 P) .nil .nil)) (.node (o405_0 P) (.node (o661_0 P) (.node (o1173_0 P) .nil .nil) .nil) (.node (o917_0 P) .nil .nil))) (.node (o213_0 P) (.node (o341_0 P) (.node (o597_0 P) (.node (o1109_0 P) .nil .nil) .nil) (.node (o853_0 P) .nil .nil)) (.node (o469_0 P) (.node (o725_0 P) (.node (o1237_0 P) .nil .nil) .nil) (.node (o981_0 P) .nil .nil)))) (.node (o117_0 P) (.node (o181_0 P) (.node (o309_0 P) (.node (o565_0 P) (.node (o1077_0 P) .nil .nil) .nil) (.node (o821_0 P) .nil .nil)) (.node (o437_0 P) (.node (o693_0 P) (.node (o1205_0 P) .nil .nil) .nil) (.node (o949_0 P) .nil .nil))) (.node (o245_0 P) (.node (o373_0 P) (.node (o629_0 P) (.node (o1141_0 P) .nil .nil) .nil) (.node (o885_0 P) .nil .nil)) (.node (o501_0 P) (.node (o757_0 P) .nil .nil) (.node (o1013_0 P) .nil .nil)))))) (.node (o29_0 P) (.node (o45_0 P) (.node (o77_0 P) (.node (o141_0 P) (.node (o269_0 P) (.node (o525_0 P) (.node (o1037_0 P) .nil .nil) .nil) (.node (o781_0 P) .nil .nil)) (.node (o397_0 P) (.node (o653_0 P) (.node (o1165_0 P) .nil .nil) .nil) (.node (o909_0 P) .nil .nil))) (.node (o205_0 P) (.node (o333_0 P) (.node (o589_0 P) (.node (o1101_0 P) .nil .nil) .nil) (.node (o845_0 P) .nil .nil)) (.node (o461_0 P) (.node (o717_0 P) (.node (o1229_0 P) .nil .nil) .nil) (.node (o973_0 P) .nil .nil)))) (.node (o109_0 P) (.node (o173_0 P) (.node (o301_0 P) (.node (o557_0 P) (.node (o1069_0 P) .nil .nil) .nil) (.node (o813_0 P) .nil .nil)) (.node (o429_0 P) (.node (o685_0 P) (.node (o1197_0 P) .nil .nil) .nil) (.node (o941_0 P) .nil .nil))) (.node (o237_0 P) (.node (o365_0 P) (.node (o621_0 P) (.node (o1133_0 P) .nil .nil) .nil) (.node (o877_0 P) .nil .nil)) (.node (o493_0 P) (.node (o749_0 P) (.node (o1261_0 P) .nil .nil) .nil) (.node (o1005_1 P) .nil .nil))))) (.node (o61_0 P) (.node (o93_0 P) (.node (o157_0 P) (.node (o285_0 P) (.node (o541_0 P) (.node (o1053_0 P) .nil .nil) .nil) (.node (o797_0 P) .nil .nil)) (.node (o413_0 P) (.node (o669_0 P) (.node (o1181_0 P) .nil .nil) .nil) (.node (o925_0 P) .nil .nil))) (.node (o221_0 P) (.node (o349_0 P) (.node (o605_0 P) (.node (o1117_0 P) .nil .nil) .nil) (.node (o861_0 P) .nil .nil)) (.node (o477_0 P) (.node (o733_0 P) (.node (o1245_0 P) .nil .nil) .nil) (.node (o989_0 P) .nil .nil)))) (.node (o125_0 P) (.node (o189_0 P) (.node (o317_0 P) (.node (o573_0 P) (.node (o1085_0 P) .nil .nil) .nil) (.node (o829_0 P) .nil .nil)) (.node (o445_0 P) (.node (o701_0 P) (.node (o1213_0 P) .nil .nil) .nil) (.node (o957_0 P) .nil .nil))) (.node (o253_0 P) (.node (o381_0 P) (.node (o637_0 P) (.node (o1149_0 P) .nil .nil) .nil) (.node (o893_0 P) .nil .nil)) (.node (o509_0 P) (.node (o765_0 P) .nil .nil) (.node (o1021_0 P) .nil .nil))))))))) (.node (o2_2 P) (.node (o4_0 P) (.node (o8_0 P) (.node (o16_0 P) (.node (o32_0 P) (.node (o64_0 P) (.node (o128_0 P) (.node (o256_0 P) (.node (o512_0 P) (.node (o1024_0 P) .nil .nil) .nil) (.node (o768_0 P) .nil .nil)) (.node (o384_0 P) (.node (o640_0 P) (.node (o1152_0 P) .nil .nil) .nil) (.node (o896_0 P) .nil .nil))) (.node (o192_0 P) (.node (o320_0 P) (.node (o576_0 P) (.node (o1088_0 P) .nil .nil) .nil) (.node (o832_0 P) .nil .nil)) (.node (o448_0 P) (.node (o704_0 P) (.node (o1216_0 P) .nil .nil) .nil) (.node (o960_0 P) .nil .nil)))) (.node (o96_0 P) (.node (o160_0 P) (.node (o288_0 P) (.node (o544_0 P) (.node (o1056_0 P) .nil .nil) .nil) (.node (o800_0 P) .nil .nil)) (.node (o416_0 P) (.node (o672_0 P) (.node (o1184_0 P) .nil .nil) .nil) (.node (o928_0 P) .nil .nil))) (.node (o224_0 P) (.node (o352_0 P) (.node (o608_0 P) (.node (o1120_0 P) .nil .nil) .nil) (.node (o864_0 P) .nil .nil)) (.node (o480_0 P) (.node (o736_0 P) (.node (o1248_0 P) .nil .nil) .nil) (.node (o992_0 P) .nil .nil))))) (.node (o48_0 P) (.node (o80_0 P) (.node (o144_0 P) (.node (o272_0 P) (.node (o528_0 P) (.node (o1040_0 P) .nil .nil) .nil) (.node (o784_0 P) .nil .nil)) (.node (o400_0 P) (.node (o656_0 P) (.node (o1168_0 P) .nil .nil) .nil) (.node (o912_0 P) .nil .nil))) (.node (o208_0 P) (.node (o336_0 P) (.node (o592_0 P) (.node (o1104_0 P) .nil .nil) .nil) (.node (o848_0 P) .nil .nil)) (.node (o464_0 P) (.node (o720_0 P) (.node (o1232_0 P) .nil .nil) .nil) (.node (o976_0 P) .nil .nil)))) (.node (o112_0 P) (.node (o176_0 P) (.node (o304_0 P) (.node (o560_0 P) (.node (o1072_0 P) .nil .nil) .nil) (.node (o816_0 P) .nil .nil)) (.node (o432_0 P) (.node (o688_0 P) (.node (o1200_0 P) .nil .nil) .nil) (.node (o944_0 P) .nil .nil))) (.node (o240_0 P) (.node (o368_0 P) (.node (o624_0 P) (.node (o1136_0 P) .nil .nil) .nil) (.node (o880_0 P) .nil .nil)) (.node (o496_0 P) (.node (o752_0 P) (.node (o1264_0 P) .nil .nil) .nil) (.node (o1008_0 P) .nil .nil)))))) (.node (o24_0 P) (.node (o40_4 P) (.node (o72_0 P) (.node (o136_0 P) (.node (o264_0 P) (.node (o520_0 P) (.node (o1032_0 P) .nil .nil) .nil) (.node (o776_0 P) .nil .nil)) (.node (o392_0 P) (.node (o648_0 P) (.node (o1160_0 P) .nil .nil) .nil) (.node (o904_0 P) .nil .nil))) (.node (o200_0 P) (.node (o328_0 P) (.node (o584_0 P) (.node (o1096_0 P) .nil .nil) .nil) (.node (o840_0 P) .nil .nil)) (.node (o456_0 P) (.node (o712_0 P) (.node (o1224_0 P) .nil .nil) .nil) (.node (o968_0 P) .nil .nil)))) (.node (o104_0 P) (.node (o168_0 P) (.node (o296_0 P) (.node (o552_0 P) (.node (o1064_0 P) .nil .nil) .nil) (.node (o808_0 P) .nil .nil)) (.node (o424_0 P) (.node (o680_0 P) (.node (o1192_0 P) .nil .nil) .nil) (.node (o936_0 P) .nil .nil))) (.node (o232_0 P) (.node (o360_0 P) (.node (o616_0 P) (.node (o1128_0 P) .nil .nil) .nil) (.node (o872_0 P) .nil .nil)) (.node (o488_0 P) (.node (o744_0 P) (.node (o1256_0 P) .nil .nil) .nil) (.node (o1000_0 P) .nil .nil))))) (.node (o56_0 P) (.node (o88_0 P) (.node (o152_0 P) (.node (o280_0 P) (.node (o536_0 P) (.node (o1048_0 P) .nil .nil) .nil) (.node (o792_0 P) .nil .nil)) (.node (o408_0 P) (.node (o664_0 P) (.node (o1176_0 P) .nil .nil) .nil) (.node (o920_0 P) .nil .nil))) (.node (o216_0 P) (.node (o344_0 P) (.node (o600_0 P) (.node (o1112_0 P) .nil .nil) .nil) (.node (o856_0 P) .nil .nil)) (.node (o472_0 P) (.node (o728_0 P) (.node (o1240_0 P) .nil .nil) .nil) (.node (o984_0 P) .nil .nil)))) (.node (o120_0 P) (.node (o184_0 P) (.node (o312_0 P) (.node (o568_0 P) (.node (o1080_0 P) .nil .nil) .nil) (.node (o824_0 P) .nil .nil)) (.node (o440_0 P) (.node (o696_0 P) (.node (o1208_0 P) .nil .nil) .nil) (.node (o952_0 P) .nil .nil))) (.node (o248_0 P) (.node (o376_0 P) (.node (o632_0 P) (.node (o1144_0 P) .nil .nil) .nil) (.node (o888_0 P) .nil .nil)) (.node (o504_0 P) (.node (o760_0 P) .nil .nil) (.node (o1016_0 P) .nil .nil))))))) (.node (o12_0 P) (.node (o20_0 P) (.node (o36_0 P) (.node (o68_0 P) (.node (o132_0 P) (.node (o260_0 P) (.node (o516_0 P) (.node (o1028_0 P) .nil .nil) .nil) (.node (o772_0 P) .nil .nil)) (.node (o388_0 P) (.node (o644_0 P) (.node (o1156_0 P) .nil .nil) .nil) (.node (o900_0 P) .nil .nil))) (.node (o196_0 P) (.node (o324_0 P) (.node (o580_0 P) (.node (o1092_0 P) .nil .nil) .nil) (.node (o836_0 P) .nil .nil)) (.node (o452_0 P) (.node (o708_0 P) (.node (o1220_0 P) .nil .nil) .nil) (.node (o964_0 P) .nil .nil)))) (.node (o100_0 P) (.node (o164_0 P) (.node (o292_0 P) (.node (o548_0 P) (.node (o1060_0 P) .nil .nil) .nil) (.node (o804_0 P) .nil .nil)) (.node (o420_0 P) (.node (o676_0 P) (.node (o1188_0 P) .nil .nil) .nil) (.node (o932_0 P) .nil .nil))) (.node (o228_0 P) (.node (o356_0 P) (.node (o612_0 P) (.node (o1124_0 P) .nil .nil) .nil) (.node (o868_0 P) .nil .nil)) (.node (o484_0 P) (.node (o740_0 P) (.node (o1252_0 P) .nil .nil) .nil) (.node (o996_0 P) .nil .nil))))) (.node (o52_0 P) (.node (o84_0 P) (.node (o148_0 P) (.node (o276_0 P) (.node (o532_0 P) (.node (o1044_0 P) .nil .nil) .nil) (.node (o788_0 P) .nil .nil)) (.node (o404_0 P) (.node (o660_0 P) (.node (o1172_0 P) .nil .nil) .nil) (.node (o916_0 P) .nil .nil))) (.node (o212_0 P) (.node (o340_0 P) (.node (o596_0 P) (.node (o1108_0 P) .nil .nil) .nil) (.node (o852_0 P) .nil .nil)) (.node (o468_0 P) (.node (o724_0 P) (.node (o1236_0 P) .nil .nil) .nil) (.node (o980_0 P) .nil .nil)))) (.node (o116_0 P) (.node (o180_0 P) (.node (o308_0 P) (.node (o564_0 P) (.node (o1076_0 P) .nil .nil) .nil) (.node (o820_0 P) .nil .nil)) (.node (o436_0 P) (.node (o692_0 P) (.node (o1204_0 P) .nil .nil) .nil) (.node (o948_0 P) .nil .nil))) (.node (o244_0 P) (.node (o372_0 P) (.node (o628_0 P) (.node (o1140_0 P) .nil .nil) .nil) (.node (o884_0 P) .nil .nil)) (.node (o500_0 P) (.node (o756_0 P) .nil .nil) (.node (o1012_0 P) .nil .nil)))))) (.node (o28_0 P) (.node (o44_0 P) (.node (o76_0 P) (.node (o140_0 P) (.node (o268_0 P) (.node (o524_0 P) (.node (o1036_0 P) .nil .nil) .nil) (.node (o780_0 P) .nil .nil)) (.node (o396_0 P) (.node (o652_0 P) (.node (o1164_0 P) .nil .nil) .nil) (.node (o908_0 P) .nil .nil))) (.node (o204_0 P) (.node (o332_0 P) (.node (o588_0 P) (.node (o1100_0 P) .nil .nil) .nil) (.node (o844_0 P) .nil .nil)) (.node (o460_0 P) (.node (o716_0 P) (.node (o1228_0 P) .nil .nil) .nil) (.node (o972_0 P) .nil .nil)))) (.node (o108_0 P) (.node (o172_0 P) (.node (o300_0 P) (.node (o556_0 P) (.node (o1068_0 P) .nil .nil) .nil) (.node (o812_0 P) .nil .nil)) (.node (o428_0 P) (.node (o684_0 P) (.node (o1196_0 P) .nil .nil) .nil) (.node (o940_0 P) .nil .nil))) (.node (o236_0 P) (.node (o364_0 P) (.node (o620_0 P) (.node (o1132_0 P) .nil .nil) .nil) (.node (o876_0 P) .nil .nil)) (.node (o492_0 P) (.node (o748_0 P) (.node (o1260_0 P) .nil .nil) .nil) (.node (o1004_0 P) .nil .nil))))) (.node (o60_0 P) (.node (o92_0 P) (.node (o156_0 P) (.node (o284_0 P) (.node (o540_0 P) (.node (o1052_0 P) .nil .nil) .nil) (.node (o796_0 P) .nil .nil)) (.node (o412_0 P) (.node (o668_0 P) (.node (o1180_0 P) .nil .nil) .nil) (.node (o924_0 P) .nil .nil))) (.node (o220_0 P) (.node (o348_0 P) (.node (o604_0 P) (.node (o1116_0 P) .nil .nil) .nil) (.node (o860_0 P) .nil .nil)) (.node (o476_0 P) (.node (o732_0 P) (.node (o1244_0 P) .nil .nil) .nil) (.node (o988_0 P) .nil .nil)))) (.node (o124_0 P) (.node (o188_0 P) (.node (o316_0 P) (.node (o572_0 P) (.node (o1084_0 P) .nil .nil) .nil) (.node (o828_0 P) .nil .nil)) (.node (o444_0 P) (.node (o700_0 P) (.node (o1212_0 P) .nil .nil) .nil) (.node (o956_0 P) .nil .nil))) (.node (o252_0 P) (.node (o380_0 P) (.node (o636_0 P) (.node (o1148_0 P) .nil .nil) .nil) (.node (o892_0 P) .nil .nil)) (.node (o508_0 P) (.node (o764_0 P) .nil .nil) (.node (o1020_0 P) .nil .nil)))))))) (.node (o6_0 P) (.node (o10_0 P) (.node (o18_0 P) (.node (o34_0 P) (.node (o66_0 P) (.node (o130_0 P) (.node (o258_0 P) (.node (o514_0 P) (.node (o1026_0 P) .nil .nil) .nil) (.node (o770_0 P) .nil .nil)) (.node (o386_0 P) (.node (o642_0 P) (.node (o1154_0 P) .nil .nil) .nil) (.node (o898_0 P) .nil .nil))) (.node (o194_0 P) (.node (o322_0 P) (.node (o578_0 P) (.node (o1090_0 P) .nil .nil) .nil) (.node (o834_0 P) .nil .nil)) (.node (o450_0 P) (.node (o706_0 P) (.node (o1218_0 P) .nil .nil) .nil) (.node (o962_0 P) .nil .nil)))) (.node (o98_0 P) (.node (o162_0 P) (.node (o290_0 P) (.node (o546_0 P) (.node (o1058_0 P) .nil .nil) .nil) (.node (o802_0 P) .nil .nil)) (.node (o418_0 P) (.node (o674_0 P) (.node (o1186_0 P) .nil .nil) .nil) (.node (o930_0 P) .nil .nil))) (.node (o226_0 P) (.node (o354_0 P) (.node (o610_0 P) (.node (o1122_0 P) .nil .nil) .nil) (.node (o866_0 P) .nil .nil)) (.node (o482_0 P) (.node (o738_0 P) (.node (o1250_0 P) .nil .nil) .nil) (.node (o994_0 P) .nil .nil))))) (.node (o50_0 P) (.node (o82_0 P) (.node (o146_0 P) (.node (o274_0 P) (.node (o530_0 P) (.node (o1042_0 P) .nil .nil) .nil) (.node (o786_0 P) .nil .nil)) (.node (o402_0 P) (.node (o658_0 P) (.node (o1170_0 P) .nil .nil) .nil) (.node (o914_0 P) .nil .nil))) (.node (o210_0 P) (.node (o338_0 P) (.node (o594_0 P) (.node (o1106_0 P) .nil .nil) .nil) (.node (o850_0 P) .nil .nil)) (.node (o466_0 P) (.node (o722_0 P) (.node (o1234_0 P) .nil .nil) .nil) (.node (o978_0 P) .nil .nil)))) (.node (o114_0 P) (.node (o178_0 P) (.node (o306_0 P) (.node (o562_0 P) (.node (o1074_0 P) .nil .nil) .nil) (.node (o818_0 P) .nil .nil)) (.node (o434_0 P) (.node (o690_0 P) (.node (o1202_0 P) .nil .nil) .nil) (.node (o946_0 P) .nil .nil))) (.node (o242_0 P) (.node (o370_0 P) (.node (o626_0 P) (.node (o1138_0 P) .nil .nil) .nil) (.node (o882_0 P) .nil .nil)) (.node (o498_0 P) (.node (o754_0 P) (.node (o1266_0 P) .nil .nil) .nil) (.node (o1010_0 P) .nil .nil)))))) (.node (o26_0 P) (.node (o42_0 P) (.node (o74_0 P) (.node (o138_0 P) (.node (o266_0 P) (.node (o522_0 P) (.node (o1034_0 P) .nil .nil) .nil) (.node (o778_0 P) .nil .nil)) (.node (o394_0 P) (.node (o650_0 P) (.node (o1162_0 P) .nil .nil) .nil) (.node (o906_0 P) .nil .nil))) (.node (o202_0 P) (.node (o330_0 P) (.node (o586_0 P) (.node (o1098_0 P) .nil .nil) .nil) (.node (o842_0 P) .nil .nil)) (.node (o458_0 P) (.node (o714_0 P) (.node (o1226_0 P) .nil .nil) .nil) (.node (o970_0 P) .nil .nil)))) (.node (o106_0 P) (.node (o170_0 P) (.node (o298_0 P) (.node (o554_0 P) (.node (o1066_0 P) .nil .nil) .nil) (.node (o810_0 P) .nil .nil)) (.node (o426_0 P) (.node (o682_0 P) (.node (o1194_0 P) .nil .nil) .nil) (.node (o938_0 P) .nil .nil))) (.node (o234_0 P) (.node (o362_0 P) (.node (o618_0 P) (.node (o1130_0 P) .nil .nil) .nil) (.node (o874_0 P) .nil .nil)) (.node (o490_0 P) (.node (o746_0 P) (.node (o1258_0 P) .nil .nil) .nil) (.node (o1002_0 P) .nil .nil))))) (.node (o58_0 P) (.node (o90_0 P) (.node (o154_0 P) (.node (o282_0 P) (.node (o538_0 P) (.node (o1050_0 P) .nil .nil) .nil) (.node (o794_0 P) .nil .nil)) (.node (o410_0 P) (.node (o666_0 P) (.node (o1178_0 P) .nil .nil) .nil) (.node (o922_0 P) .nil .nil))) (.node (o218_0 P) (.node (o346_0 P) (.node (o602_0 P) (.node (o1114_0 P) .nil .nil) .nil) (.node (o858_0 P) .nil .nil)) (.node (o474_0 P) (.node (o730_0 P) (.node (o1242_0 P) .nil .nil) .nil) (.node (o986_0 P) .nil .nil)))) (.node (o122_0 P) (.node (o186_0 P) (.node (o314_0 P) (.node (o570_0 P) (.node (o1082_0 P) .nil .nil) .nil) (.node (o826_0 P) .nil .nil)) (.node (o442_0 P) (.node (o698_0 P) (.node (o1210_0 P) .nil .nil) .nil) (.node (o954_0 P) .nil .nil))) (.node (o250_0 P) (.node (o378_0 P) (.node (o634_0 P) (.node (o1146_0 P) .nil .nil) .nil) (.node (o890_0 P) .nil .nil)) (.node (o506_0 P) (.node (o762_0 P) .nil .nil) (.node (o1018_0 P) .nil .nil))))))) (.node (o14_0 P) (.node (o22_0 P) (.node (o38_0 P) (.node (o70_0 P) (.node (o134_0 P) (.node (o262_0 P) (.node (o518_0 P) (.node (o1030_0 P) .nil .nil) .nil) (.node (o774_0 P) .nil .nil)) (.node (o390_0 P) (.node (o646_0 P) (.node (o1158_0 P) .nil .nil) .nil) (.node (o902_0 P) .nil .nil))) (.node (o198_0 P) (.node (o326_0 P) (.node (o582_0 P) (.node (o1094_0 P) .nil .nil) .nil) (.node (o838_0 P) .nil .nil)) (.node (o454_0 P) (.node (o710_0 P) (.node (o1222_0 P) .nil .nil) .nil) (.node (o966_0 P) .nil .nil)))) (.node (o102_0 P) (.node (o166_0 P) (.node (o294_0 P) (.node (o550_0 P) (.node (o1062_0 P) .nil .nil) .nil) (.node (o806_0 P) .nil .nil)) (.node (o422_0 P) (.node (o678_0 P) (.node (o1190_0 P) .nil .nil) .nil) (.node (o934_0 P) .nil .nil))) (.node (o230_0 P) (.node (o358_0 P) (.node (o614_0 P) (.node (o1126_0 P) .nil .nil) .nil) (.node (o870_0 P) .nil .nil)) (.node (o486_0 P) (.node (o742_0 P) (.node (o1254_0 P) .nil .nil) .nil) (.node (o998_0 P) .nil .nil))))) (.node (o54_0 P) (.node (o86_0 P) (.node (o150_0 P) (.node (o278_0 P) (.node (o534_0 P) (.node (o1046_0 P) .nil .nil) .nil) (.node (o790_0 P) .nil .nil)) (.node (o406_0 P) (.node (o662_0 P) (.node (o1174_0 P) .nil .nil) .nil) (.node (o918_0 P) .nil .nil))) (.node (o214_0 P) (.node (o342_0 P) (.node (o598_0 P) (.node (o1110_0 P) .nil .nil) .nil) (.node (o854_0 P) .nil .nil)) (.node (o470_0 P) (.node (o726_0 P) (.node (o1238_0 P) .nil .nil) .nil) (.node (o982_0 P) .nil .nil)))) (.node (o118_0 P) (.node (o182_0 P) (.node (o310_0 P) (.node (o566_0 P) (.node (o1078_0 P) .nil .nil) .nil) (.node (o822_0 P) .nil .nil)) (.node (o438_0 P) (.node (o694_0 P) (.node (o1206_0 P) .nil .nil) .nil) (.node (o950_0 P) .nil .nil))) (.node (o246_0 P) (.node (o374_0 P) (.node (o630_0 P) (.node (o1142_0 P) .nil .nil) .nil) (.node (o886_0 P) .nil .nil)) (.node (o502_0 P) (.node (o758_0 P) .nil .nil) (.node (o1014_0 P) .nil .nil)))))) (.node (o30_0 P) (.node (o46_0 P) (.node (o78_0 P) (.node (o142_0 P) (.node (o270_0 P) (.node (o526_0 P) (.node (o1038_0 P) .nil .nil) .nil) (.node (o782_0 P) .nil .nil)) (.node (o398_0 P) (.node (o654_0 P) (.node (o1166_0 P) .nil .nil) .nil) (.node (o910_0 P) .nil .nil))) (.node (o206_0 P) (.node (o334_0 P) (.node (o590_0 P) (.node (o1102_0 P) .nil .nil) .nil) (.node (o846_0 P) .nil .nil)) (.node (o462_0 P) (.node (o718_0 P) (.node (o1230_0 P) .nil .nil) .nil) (.node (o974_0 P) .nil .nil)))) (.node (o110_0 P) (.node (o174_0 P) (.node (o302_0 P) (.node (o558_0 P) (.node (o1070_0 P) .nil .nil) .nil) (.node (o814_0 P) .nil .nil)) (.node (o430_0 P) (.node (o686_0 P) (.node (o1198_0 P) .nil .nil) .nil) (.node (o942_0 P) .nil .nil))) (.node (o238_0 P) (.node (o366_0 P) (.node (o622_0 P) (.node (o1134_0 P) .nil .nil) .nil) (.node (o878_0 P) .nil .nil)) (.node (o494_0 P) (.node (o750_0 P) (.node (o1262_0 P) .nil .nil) .nil) (.node (o1006_0 P) .nil .nil))))) (.node (o62_0 P) (.node (o94_0 P) (.node (o158_0 P) (.node (o286_0 P) (.node (o542_0 P) (.node (o1054_0 P) .nil .nil) .nil) (.node (o798_0 P) .nil .nil)) (.node (o414_0 P) (.node (o670_0 P) (.node (o1182_0 P) .nil .nil) .nil) (.node (o926_0 P) .nil .nil))) (.node (o222_0 P) (.node (o350_0 P) (.node (o606_0 P) (.node (o1118_0 P) .nil .nil) .nil) (.node (o862_0 P) .nil .nil)) (.node (o478_0 P) (.node (o734_0 P) (.node (o1246_0 P) .nil .nil) .nil) (.node (o990_0 P) .nil .nil)))) (.node (o126_0 P) (.node (o190_0 P) (.node (o318_0 P) (.node (o574_0 P) (.node (o1086_0 P) .nil .nil) .nil) (.node (o830_0 P) .nil .nil)) (.node (o446_0 P) (.node (o702_0 P) (.node (o1214_0 P) .nil .nil) .nil) (.node (o958_0 P) .nil .nil))) (.node (o254_0 P) (.node (o382_0 P) (.node (o638_0 P) (.node (o1150_0 P) .nil .nil) .nil) (.node (o894_0 P) .nil .nil)) (.node (o510_0 P) (.node (o766_0 P) .nil .nil) (.node (o1022_0 P) .nil .nil))))))))))
def o12_1 (P : Params) : Obj := ⟨(.type "dict"), none, (.dict #[de P "__name__" 288 (vs "_struct" 287), de P "__doc__" 289 (.builtin "_struct.__doc__:str#opaque"), de P "__package__" 291 (vs "" 290), de P "__loader__" 292 (vr 29), de P "__spec__" 293 (vr 37), de P "_clearcache" 294 (.builtin "_struct._clearcache"), de P "calcsize" 295 (.builtin "_struct.calcsize"), de P "iter_unpack" 296 (.builtin "_struct.iter_unpack"), de P "pack" 297 (.builtin "_struct.pack"), de P "pack_into" 298 (.builtin "_struct.pack_into"), de P "unpack" 299 (.builtin "_struct.unpack"), de P "unpack_from" 300 (.builtin "_struct.unpack_from"), de P "__file__" 301 (.str ⟨#[47, 110, 105, 120, 47, 115, 116, 111, 114, 101, 47, 119, 106, 49, 102, 53, 54, 113, 107, 121, 52, 112, 109, 106, 99, 55, 108, 48, 114, 54, 98, 54, 108, 55, 119, 104, 110, 110, 119, 55, 104, 112, 54, 45, 112, 121, 116, 104, 111, 110, 51, 45, 51, 46, 49, 51, 46, 49, 53, 47, 108, 105, 98, 47, 112, 121, 116, 104, 111, 110, 51, 46, 49, 51, 47, 108, 105, 98, 45, 100, 121, 110, 108, 111, 97, 100, 47, 95, 115, 116, 114, 117, 99, 116, 46, 99, 112, 121, 116, 104, 111, 110, 45, 51, 49, 51, 45, 120, 56, 54, 95, 54, 52, 45, 108, 105, 110, 117, 120, 45, 103, 110, 117, 46, 115, 111]⟩ 187), de P "Struct" 302 (.type "_struct.Struct"), de P "error" 304 (.type "struct.error")] 15), #[]⟩
def trO (P : Params) : BT := (.node (o0_0 P) (.node (o1_0 P) (.node (o3_0 P) (.node (o7_0 P) (.node (o15_0 P) (.node (o31_0 P) .nil .nil) .nil) (.node (o23_0 P) .nil .nil)) (.node (o11_0 P) (.node (o19_0 P) (.node (o35_0 P) .nil .nil) .nil) (.node (o27_0 P) .nil .nil))) (.node (o5_0 P) (.node (o9_0 P) (.node (o17_0 P) (.node (o33_0 P) .nil .nil) .nil) (.node (o25_0 P) .nil .nil)) (.node (o13_0 P) (.node (o21_0 P) (.node (o37_0 P) .nil .nil) .nil) (.node (o29_0 P) .nil .nil)))) (.node (o2_0 P) (.node (o4_0 P) (.node (o8_0 P) (.node (o16_0 P) (.node (o32_0 P) .nil .nil) .nil) (.node (o24_0 P) .nil .nil)) (.node (o12_1 P) (.node (o20_0 P) (.node (o36_0 P) .nil .nil) .nil) (.node (o28_0 P) .nil .nil))) (.node (o6_0 P) (.node (o10_0 P) (.node (o18_0 P) (.node (o34_0 P) .nil .nil) .nil) (.node (o26_0 P) .nil .nil)) (.node (o14_0 P) (.node (o22_0 P) (.node (o38_0 P) .nil .nil) .nil) (.node (o30_0 P) .nil .nil)))))
def hp0 (P : Params) : Heap := ⟨⟨[o0_0 P, o1_0 P, o2_0 P, o3_0 P, o4_0 P, o5_0 P, o6_0 P, o7_0 P, o8_0 P, o9_0 P, o10_0 P, o11_0 P, o12_0 P, o13_0 P, o14_0 P, o15_0 P, o16_0 P, o17_0 P, o18_0 P, o19_0 P, o20_0 P, o21_0 P, o22_0 P, o23_0 P, o24_0 P, o25_0 P, o26_0 P, o27_0 P, o28_0 P, o29_0 P, o30_0 P, o31_0 P, o32_0 P, o33_0 P, o34_0 P, o35_0 P, o36_0 P, o37_0 P, o38_0 P]⟩, {}⟩
def hpF (P : Params) : Heap := ⟨⟨[o0_0 P, o1_0 P, o2_2 P, o3_4 P, o4_0 P, o5_0 P, o6_0 P, o7_0 P, o8_0 P, o9_0 P, o10_0 P, o11_0 P, o12_0 P, o13_0 P, o14_0 P, o15_0 P, o16_0 P, o17_0 P, o18_0 P, o19_0 P, o20_0 P, o21_0 P, o22_0 P, o23_0 P, o24_0 P, o25_0 P, o26_0 P, o27_0 P, o28_0 P, o29_0 P, o30_0 P, o31_0 P, o32_0 P, o33_0 P, o34_0 P, o35_0 P, o36_0 P, o37_0 P, o38_0 P, o39_0 P, o40_4 P, o41_0 P, o42_0 P, o43_0 P, o44_0 P, o45_0 P, o46_0 P, o47_0 P, o48_0 P, o49_0 P, o50_0 P, o51_0 P, o52_0 P, o53_0 P, o54_0 P, o55_0 P, o56_0 P, o57_0 P, o58_0 P, o59_0 P, o60_0 P, o61_0 P, o62_0 P, o63_0 P, o64_0 P, o65_0 P, o66_0 P, o67_0 P, o68_0 P, o69_0 P, o70_0 P, o71_0 P, o72_0 P, o73_0 P, o74_0 P, o75_0 P, o76_0 P, o77_0 P, o78_0 P, o79_0 P, o80_0 P, o81_0 P, o82_0 P, o83_0 P, o84_0 P, o85_0 P, o86_0 P, o87_0 P, o88_0 P, o89_0 P, o90_0 P, o91_0 P, o92_0 P, o93_0 P, o94_0 P, o95_0 P, o96_0 P, o97_0 P, o98_0 P, o99_0 P, o100_0 P, o101_0 P, o102_0 P, o103_0 P, o104_0 P, o105_0 P, o106_0 P, o107_0 P, o108_0 P, o109_0 P, o110_0 P, o111_0 P, o112_0 P, o113_0 P, o114_0 P, o115_0 P, o116_0 P, o117_0 P, o118_0 P, o119_0 P, o120_0 P, o121_0 P, o122_0 P, o123_0 P, o124_0 P, o125_0 P, o126_0 P, o127_0 P, o128_0 P, o129_0 P, o130_0 P, o131_0 P, o132_0 P, o133_0 P, o134_0 P, o135_0 P, o136_0 P, o137_0 P, o138_0 P, o139_0 P, o140_0 P, o141_0 P, o142_0 P, o143_0 P, o144_0 P, o145_0 P, o146_0 P, o147_0 P, o148_0 P, o149_0 P, o150_0 P, o151_0 P, o152_0 P, o153_0 P, o154_0 P, o155_0 P, o156_0 P, o157_0 P, o158_0 P, o159_0 P, o160_0 P, o161_0 P, o162_0 P, o163_0 P, o164_0 P, o165_0 P, o166_0 P, o167_0 P, o168_0 P, o169_0 P, o170_0 P, o171_0 P, o172_0 P, o173_0 P, o174_0 P, o175_0 P, o176_0 P, o177_0 P, o178_0 P, o179_0 P, o180_0 P, o181_0 P, o182_0 P, o183_0 P, o184_0 P, o185_0 P, o186_0 P, o187_0 P, o188_0 P, o189_0 P, o190_0 P, o191_0 P, o192_0 P, o193_0 P, o194_0 P, o195_0 P, o196_0 P, o197_0 P, o198_0 P, o199_0 P, o200_0 P, o201_0 P, o202_0 P, o203_0 P, o204_0 P, o205_0 P, o206_0 P, o207_0 P, o208_0 P, o209_0 P, o210_0 P, o211_0 P, o212_0 P, o213_0 P, o214_0 P, o215_0 P, o216_0 P, o217_0 P, o218_0 P, o219_0 P, o220_0 P, o221_0 P, o222_0 P, o223_0 P, o224_0 P, o225_0 P, o226_0 P, o227_0 P, o228_0 P, o229_0 P, o230_0 P, o231_0 P, o232_0 P, o233_0 P, o234_0 P, o235_0 P, o236_0 P, o237_0 P, o238_0 P, o239_0 P, o240_0 P, o241_0 P, o242_0 P, o243_0 P, o244_0 P, o245_0 P, o246_0 P, o247_0 P, o248_0 P, o249_0 P, o250_0 P, o251_0 P, o252_0 P, o253_0 P, o254_0 P, o255_0 P, o256_0 P, o257_0 P, o258_0 P, o259_0 P, o260_0 P, o261_0 P, o262_0 P, o263_0 P, o264_0 P, o265_0 P, o266_0 P, o267_0 P, o268_0 P, o269_0 P, o270_0 P, o271_0 P, o272_0 P, o273_0 P, o274_0 P, o275_0 P, o276_0 P, o277_0 P, o278_0 P, o279_0 P, o280_0 P, o281_0 P, o282_0 P, o283_0 P, o284_0 P, o285_0 P, o286_0 P, o287_0 P, o288_0 P, o289_1 P, o290_0 P, o291_0 P, o292_0 P, o293_0 P, o294_0 P, o295_0 P, o296_0 P, o297_0 P, o298_0 P, o299_0 P, o300_0 P, o301_0 P, o302_0 P, o303_0 P, o304_0 P, o305_0 P, o306_0 P, o307_0 P, o308_0 P, o309_0 P, o310_0 P, o311_0 P, o312_0 P, o313_0 P, o314_0 P, o315_0 P, o316_0 P, o317_0 P, o318_0 P, o319_0 P, o320_0 P, o321_0 P, o322_0 P, o323_0 P, o324_0 P, o325_0 P, o326_0 P, o327_0 P, o328_0 P, o329_0 P, o330_0 P, o331_0 P, o332_0 P, o333_0 P, o334_0 P, o335_0 P, o336_0 P, o337_0 P, o338_0 P, o339_0 P, o340_0 P, o341_0 P, o342_0 P, o343_0 P, o344_0 P, o345_0 P, o346_0 P, o347_0 P, o348_0 P, o349_0 P, o350_0 P, o351_0 P, o352_0 P, o353_0 P, o354_0 P, o355_0 P, o356_0 P, o357_0 P, o358_0 P, o359_0 P, o360_0 P, o361_0 P, o362_0 P, o363_0 P, o364_0 P, o365_0 P, o366_0 P, o367_0 P, o368_0 P, o369_0 P, o370_0 P, o371_0 P, o372_0 P, o373_0 P, o374_0 P, o375_0 P, o376_0 P, o377_0 P, o378_0 P, o379_0 P, o380_0 P, o381_0 P, o382_0 P, o383_0 P, o384_0 P, o385_0 P, o386_0 P, o387_0 P, o388_0 P, o389_0 P, o390_0 P, o391_0 P, o392_0 P, o393_0 P, o394_0 P, o395_0 P, o396_0 P, o397_0 P, o398_0 P, o399_0 P, o400_0 P, o401_0 P, o402_0 P, o403_0 P, o404_0 P, o405_0 P, o406_0 P, o407_0 P, o408_0 P, o409_0 P, o410_0 P, o411_0 P, o412_0 P, o413_0 P, o414_0 P, o415_0 P, o416_0 P, o417_0 P, o418_0 P, o419_0 P, o420_0 P, o421_0 P, o422_0 P, o423_0 P, o424_0 P, o425_0 P, o426_0 P, o427_0 P, o428_0 P, o429_0 P, o430_0 P, o431_0 P, o432_0 P, o433_0 P, o434_0 P, o435_0 P, o436_0 P, o437_0 P, o438_0 P, o439_0 P, o440_0 P, o441_0 P, o442_0 P, o443_0 P, o444_0 P, o445_0 P, o446_0 P, o447_0 P, o448_0 P, o449_0 P, o450_0 P, o451_0 P, o452_0 P, o453_0 P, o454_0 P, o455_0 P, o456_0 P, o457_0 P, o458_0 P, o459_0 P, o460_0 P, o461_0 P, o462_0 P, o463_0 P, o464_0 P, o465_0 P, o466_0 P, o467_0 P, o468_0 P, o469_0 P, o470_0 P, o471_0 P, o472_0 P, o473_0 P, o474_0 P, o475_0 P, o476_0 P, o477_0 P, o478_0 P, o479_0 P, o480_0 P, o481_0 P, o482_0 P, o483_0 P, o484_0 P, o485_0 P, o486_0 P, o487_0 P, o488_0 P, o489_0 P, o490_0 P, o491_0 P, o492_0 P, o493_0 P, o494_0 P, o495_0 P, o496_0 P, o497_0 P, o498_0 P, o499_0 P, o500_0 P, o501_0 P, o502_0 P, o503_0 P, o504_0 P, o505_0 P, o506_0 P, o507_0 P, o508_0 P, o509_0 P, o510_0 P, o511_0 P, o512_0 P, o513_0 P, o514_0 P, o515_0 P, o516_0 P, o517_0 P, o518_0 P, o519_0 P, o520_0 P, o521_0 P, o522_0 P, o523_0 P, o524_0 P, o525_0 P, o526_0 P, o527_0 P, o528_0 P, o529_0 P, o530_0 P, o531_0 P, o532_0 P, o533_0 P, o534_0 P, o535_0 P, o536_0 P, o537_0 P, o538_0 P, o539_0 P, o540_0 P, o541_0 P, o542_0 P, o543_0 P, o544_0 P, o545_0 P, o546_0 P, o547_0 P, o548_0 P, o549_0 P, o550_0 P, o551_0 P, o552_0 P, o553_0 P, o554_0 P, o555_0 P, o556_0 P, o557_0 P, o558_0 P, o559_0 P, o560_0 P, o561_0 P, o562_0 P, o563_0 P, o564_0 P, o565_0 P, o566_0 P, o567_0 P, o568_0 P, o569_0 P, o570_0 P, o571_0 P, o572_0 P, o573_0 P, o574_0 P, o575_0 P, o576_0 P, o577_0 P, o578_0 P, o579_0 P, o580_0 P, o581_0 P, o582_0 P, o583_0 P, o584_0 P, o585_0 P, o586_0 P, o587_0 P, o588_0 P, o589_0 P, o590_0 P, o591_0 P, o592_0 P, o593_0 P, o594_0 P, o595_0 P, o596_0 P, o597_0 P, o598_0 P, o599_0 P, o600_0 P, o601_0 P, o602_0 P, o603_0 P, o604_0 P, o605_0 P, o606_0 P, o607_0 P, o608_0 P, o609_0 P, o610_0 P, o611_0 P, o612_0 P, o613_0 P, o614_0 P, o615_0 P, o616_0 P, o617_0 P, o618_0 P, o619_0 P, o620_0 P, o621_0 P, o622_0 P, o623_0 P, o624_0 P, o625_0 P, o626_0 P, o627_0 P, o628_0 P, o629_0 P, o630_0 P, o631_0 P, o632_0 P, o633_0 P, o634_0 P, o635_0 P, o636_0 P, o637_0 P, o638_0 P, o639_0 P, o640_0 P, o641_0 P, o642_0 P, o643_0 P, o644_0 P, o645_0 P, o646_0 P, o647_0 P, o648_0 P, o649_0 P, o650_0 P, o651_0 P, o652_0 P, o653_0 P, o654_0 P, o655_0 P, o656_0 P, o657_0 P, o658_0 P, o659_0 P, o660_0 P, o661_0 P, o662_0 P, o663_0 P, o664_0 P, o665_0 P, o666_0 P, o667_0 P, o668_0 P, o669_0 P, o670_0 P, o671_0 P, o672_0 P, o673_0 P, o674_0 P, o675_0 P, o676_0 P, o677_0 P, o678_0 P, o679_0 P, o680_0 P, o681_0 P, o682_0 P, o683_0 P, o684_0 P, o685_0 P, o686_0 P, o687_0 P, o688_0 P, o689_0 P, o690_0 P, o691_0 P, o692_0 P, o693_0 P, o694_0 P, o695_0 P, o696_0 P, o697_0 P, o698_0 P, o699_0 P, o700_0 P, o701_0 P, o702_0 P, o703_0 P, o704_0 P, o705_0 P, o706_0 P, o707_0 P, o708_0 P, o709_0 P, o710_0 P, o711_0 P, o712_0 P, o713_0 P, o714_0 P, o715_0 P, o716_0 P, o717_0 P, o718_0 P, o719_0 P, o720_0 P, o721_0 P, o722_0 P, o723_0 P, o724_0 P, o725_0 P, o726_0 P, o727_0 P, o728_0 P, o729_0 P, o730_0 P, o731_0 P, o732_0 P, o733_0 P, o734_0 P, o735_0 P, o736_0 P, o737_0 P, o738_0 P, o739_0 P, o740_0 P, o741_0 P, o742_0 P, o743_0 P, o744_0 P, o745_0 P, o746_0 P, o747_0 P, o748_0 P, o749_0 P, o750_0 P, o751_0 P, o752_0 P, o753_0 P, o754_0 P, o755_0 P, o756_0 P, o757_0 P, o758_0 P, o759_0 P, o760_0 P, o761_0 P, o762_0 P, o763_0 P, o764_0 P, o765_0 P, o766_0 P, o767_0 P, o768_0 P, o769_0 P, o770_0 P, o771_0 P, o772_0 P, o773_0 P, o774_0 P, o775_0 P, o776_0 P, o777_0 P, o778_0 P, o779_0 P, o780_0 P, o781_0 P, o782_0 P, o783_0 P, o784_0 P, o785_0 P, o786_0 P, o787_0 P, o788_0 P, o789_0 P, o790_0 P, o791_0 P, o792_0 P, o793_0 P, o794_0 P, o795_0 P, o796_0 P, o797_0 P, o798_0 P, o799_0 P, o800_0 P, o801_0 P, o802_0 P, o803_0 P, o804_0 P, o805_0 P, o806_0 P, o807_0 P, o808_0 P, o809_0 P, o810_0 P, o811_0 P, o812_0 P, o813_0 P, o814_0 P, o815_0 P, o816_0 P, o817_0 P, o818_0 P, o819_0 P, o820_0 P, o821_0 P, o822_0 P, o823_0 P, o824_0 P, o825_0 P, o826_0 P, o827_0 P, o828_0 P, o829_0 P, o830_0 P, o831_0 P, o832_0 P, o833_0 P, o834_0 P, o835_0 P, o836_0 P, o837_0 P, o838_0 P, o839_0 P, o840_0 P, o841_0 P, o842_0 P, o843_0 P, o844_0 P, o845_0 P, o846_0 P, o847_0 P, o848_0 P, o849_0 P, o850_0 P, o851_0 P, o852_0 P, o853_0 P, o854_0 P, o855_0 P, o856_0 P, o857_0 P, o858_0 P, o859_0 P, o860_0 P, o861_0 P, o862_0 P, o863_0 P, o864_0 P, o865_0 P, o866_0 P, o867_0 P, o868_0 P, o869_0 P, o870_0 P, o871_0 P, o872_0 P, o873_0 P, o874_0 P, o875_0 P, o876_0 P, o877_0 P, o878_0 P, o879_0 P, o880_0 P, o881_0 P, o882_0 P, o883_0 P, o884_0 P, o885_0 P, o886_0 P, o887_0 P, o888_0 P, o889_0 P, o890_0 P, o891_0 P, o892_0 P, o893_0 P, o894_0 P, o895_0 P, o896_0 P, o897_0 P, o898_0 P, o899_0 P, o900_0 P, o901_0 P, o902_0 P, o903_0 P, o904_0 P, o905_0 P, o906_0 P, o907_0 P, o908_0 P, o909_0 P, o910_0 P, o911_0 P, o912_0 P, o913_0 P, o914_0 P, o915_0 P, o916_0 P, o917_0 P, o918_0 P, o919_0 P, o920_0 P, o921_0 P, o922_0 P, o923_0 P, o924_0 P, o925_0 P, o926_0 P, o927_0 P, o928_0 P, o929_0 P, o930_0 P, o931_0 P, o932_0 P, o933_0 P, o934_0 P, o935_0 P, o936_0 P, o937_0 P, o938_0 P, o939_0 P, o940_0 P, o941_0 P, o942_0 P, o943_0 P, o944_0 P, o945_0 P, o946_0 P, o947_0 P, o948_0 P, o949_0 P, o950_0 P, o951_0 P, o952_0 P, o953_0 P, o954_0 P, o955_0 P, o956_0 P, o957_0 P, o958_0 P, o959_0 P, o960_0 P, o961_0 P, o962_0 P, o963_0 P, o964_0 P, o965_0 P, o966_0 P, o967_0 P, o968_0 P, o969_0 P, o970_0 P, o971_0 P, o972_0 P, o973_0 P, o974_0 P, o975_0 P, o976_0 P, o977_0 P, o978_0 P, o979_0 P, o980_0 P, o981_0 P, o982_0 P, o983_0 P, o984_0 P, o985_0 P, o986_0 P, o987_0 P, o988_0 P, o989_0 P, o990_0 P, o991_0 P, o992_0 P, o993_0 P, o994_0 P, o995_0 P, o996_0 P, o997_0 P, o998_0 P, o999_0 P, o1000_0 P, o1001_0 P, o1002_0 P, o1003_0 P, o1004_0 P, o1005_1 P, o1006_0 P, o1007_0 P, o1008_0 P, o1009_1 P, o1010_0 P, o1011_1 P, o1012_0 P, o1013_0 P, o1014_0 P, o1015_0 P, o1016_0 P, o1017_0 P, o1018_0 P, o1019_0 P, o1020_0 P, o1021_0 P, o1022_0 P, o1023_0 P, o1024_0 P, o1025_0 P, o1026_0 P, o1027_0 P, o1028_0 P, o1029_0 P, o1030_0 P, o1031_0 P, o1032_0 P, o1033_0 P, o1034_0 P, o1035_0 P, o1036_0 P, o1037_0 P, o1038_0 P, o1039_0 P, o1040_0 P, o1041_0 P, o1042_0 P, o1043_0 P, o1044_0 P, o1045_0 P, o1046_0 P, o1047_0 P, o1048_0 P, o1049_0 P, o1050_0 P, o1051_0 P, o1052_0 P, o1053_0 P, o1054_0 P, o1055_0 P, o1056_0 P, o1057_0 P, o1058_0 P, o1059_0 P, o1060_0 P, o1061_0 P, o1062_0 P, o1063_0 P, o1064_0 P, o1065_0 P, o1066_0 P, o1067_0 P, o1068_0 P, o1069_0 P, o1070_0 P, o1071_0 P, o1072_0 P, o1073_0 P, o1074_0 P, o1075_0 P, o1076_0 P, o1077_0 P, o1078_0 P, o1079_0 P, o1080_0 P, o1081_0 P, o1082_0 P, o1083_0 P, o1084_0 P, o1085_0 P, o1086_0 P, o1087_0 P, o1088_0 P, o1089_0 P, o1090_0 P, o1091_0 P, o1092_0 P, o1093_0 P, o1094_0 P, o1095_0 P, o1096_0 P, o1097_0 P, o1098_0 P, o1099_0 P, o1100_0 P, o1101_0 P, o1102_0 P, o1103_0 P, o1104_0 P, o1105_0 P, o1106_0 P, o1107_0 P, o1108_0 P, o1109_0 P, o1110_0 P, o1111_0 P, o1112_0 P, o1113_0 P, o1114_0 P, o1115_0 P, o1116_0 P, o1117_0 P, o1118_0 P, o1119_0 P, o1120_0 P, o1121_0 P, o1122_0 P, o1123_0 P, o1124_0 P, o1125_0 P, o1126_0 P, o1127_0 P, o1128_0 P, o1129_0 P, o1130_0 P, o1131_0 P, o1132_0 P, o1133_0 P, o1134_0 P, o1135_0 P, o1136_0 P, o1137_0 P, o1138_0 P, o1139_0 P, o1140_0 P, o1141_0 P, o1142_0 P, o1143_0 P, o1144_0 P, o1145_0 P, o1146_0 P, o1147_0 P, o1148_0 P, o1149_0 P, o1150_0 P, o1151_0 P, o1152_0 P, o1153_0 P, o1154_0 P, o1155_0 P, o1156_0 P, o1157_0 P, o1158_0 P, o1159_0 P, o1160_0 P, o1161_0 P, o1162_0 P, o1163_0 P, o1164_0 P, o1165_0 P, o1166_0 P, o1167_0 P, o1168_0 P, o1169_0 P, o1170_0 P, o1171_0 P, o1172_0 P, o1173_0 P, o1174_0 P, o1175_0 P, o1176_0 P, o1177_0 P, o1178_0 P, o1179_0 P, o1180_0 P, o1181_0 P, o1182_0 P, o1183_0 P, o1184_0 P, o1185_0 P, o1186_0 P, o1187_0 P, o1188_0 P, o1189_0 P, o1190_0 P, o1191_0 P, o1192_0 P, o1193_0 P, o1194_0 P, o1195_0 P, o1196_0 P, o1197_0 P, o1198_0 P, o1199_0 P, o1200_0 P, o1201_0 P, o1202_0 P, o1203_0 P, o1204_0 P, o1205_0 P, o1206_0 P, o1207_0 P, o1208_0 P, o1209_0 P, o1210_0 P, o1211_0 P, o1212_0 P, o1213_0 P, o1214_0 P, o1215_0 P, o1216_0 P, o1217_0 P, o1218_0 P, o1219_0 P, o1220_0 P, o1221_0 P, o1222_0 P, o1223_0 P, o1224_0 P, o1225_0 P, o1226_0 P, o1227_0 P, o1228_0 P, o1229_0 P, o1230_0 P, o1231_0 P, o1232_0 P, o1233_0 P, o1234_0 P, o1235_0 P, o1236_0 P, o1237_0 P, o1238_0 P, o1239_0 P, o1240_0 P, o1241_0 P, o1242_0 P, o1243_0 P, o1244_0 P, o1245_0 P, o1246_0 P, o1247_0 P, o1248_0 P, o1249_0 P, o1250_0 P, o1251_0 P, o1252_0 P, o1253_0 P, o1254_0 P, o1255_0 P, o1256_0 P, o1257_0 P, o1258_0 P, o1259_0 P, o1260_0 P, o1261_0 P, o1262_0 P, o1263_0 P, o1264_0 P, o1265_0 P, o1266_0 P]⟩, {}⟩
def KF (P : Params) : Frag := (nat_lit 0, o0_0 P) :: (nat_lit 2, o2_2 P) :: (nat_lit 3, o3_4 P) :: (nat_lit 258, o258_0 P) :: (nat_lit 259, o259_0 P) :: (nat_lit 261, o261_0 P) :: (nat_lit 262, o262_0 P) :: (nat_lit 263, o263_0 P) :: (nat_lit 276, o276_0 P) :: (nat_lit 277, o277_0 P) :: (nat_lit 299, o299_0 P) :: (nat_lit 305, o305_0 P) :: (nat_lit 306, o306_0 P) :: (nat_lit 312, o312_0 P) :: (nat_lit 313, o313_0 P) :: (nat_lit 404, o404_0 P) :: (nat_lit 405, o405_0 P) :: (nat_lit 501, o501_0 P) :: (nat_lit 502, o502_0 P) :: (nat_lit 518, o518_0 P) :: (nat_lit 519, o519_0 P) :: (nat_lit 776, o776_0 P) :: (nat_lit 782, o782_0 P) :: (nat_lit 783, o783_0 P) :: (nat_lit 784, o784_0 P) :: (nat_lit 790, o790_0 P) :: (nat_lit 791, o791_0 P) :: (nat_lit 797, o797_0 P) :: (nat_lit 798, o798_0 P) :: (nat_lit 878, o878_0 P) :: (nat_lit 879, o879_0 P) :: (nat_lit 1016, o1016_0 P) :: (nat_lit 1017, o1017_0 P) :: (nat_lit 1031, o1031_0 P) :: (nat_lit 1032, o1032_0 P) :: (nat_lit 1053, o1053_0 P) :: (nat_lit 1054, o1054_0 P) :: (nat_lit 1063, o1063_0 P) :: (nat_lit 1064, o1064_0 P) :: (nat_lit 1069, o1069_0 P) :: (nat_lit 1070, o1070_0 P) :: (nat_lit 1174, o1174_0 P) :: (nat_lit 1175, o1175_0 P) :: (nat_lit 1226, o1226_0 P) :: (nat_lit 1227, o1227_0 P) :: (nat_lit 1228, o1228_0 P) :: (nat_lit 1234, o1234_0 P) :: (nat_lit 1235, o1235_0 P) :: (nat_lit 1241, o1241_0 P) :: (nat_lit 1242, o1242_0 P) :: (nat_lit 1248, o1248_0 P) :: (nat_lit 1249, o1249_0 P) :: (nat_lit 1255, o1255_0 P) :: (nat_lit 1256, o1256_0 P) :: (nat_lit 1260, o1260_0 P) :: (nat_lit 1261, o1261_0 P) :: (nat_lit 1265, o1265_0 P) :: (nat_lit 1266, o1266_0 P) :: []
def asF : List Addr := [nat_lit 0, nat_lit 2, nat_lit 3, nat_lit 258, nat_lit 259, nat_lit 261, nat_lit 262, nat_lit 263, nat_lit 276, nat_lit 277, nat_lit 299, nat_lit 305, nat_lit 306, nat_lit 312, nat_lit 313, nat_lit 404, nat_lit 405, nat_lit 501, nat_lit 502, nat_lit 518, nat_lit 519, nat_lit 776, nat_lit 782, nat_lit 783, nat_lit 784, nat_lit 790, nat_lit 791, nat_lit 797, nat_lit 798, nat_lit 878, nat_lit 879, nat_lit 1016, nat_lit 1017, nat_lit 1031, nat_lit 1032, nat_lit 1053, nat_lit 1054, nat_lit 1063, nat_lit 1064, nat_lit 1069, nat_lit 1070, nat_lit 1174, nat_lit 1175, nat_lit 1226, nat_lit 1227, nat_lit 1228, nat_lit 1234, nat_lit 1235, nat_lit 1241, nat_lit 1242, nat_lit 1248, nat_lit 1249, nat_lit 1255, nat_lit 1256, nat_lit 1260, nat_lit 1261, nat_lit 1265, nat_lit 1266]
end Mine

end
end
local macro_rules | `(tactic| walk_at "zz") => `(tactic| fail)
section
open PySem PySem.W PyProof.Rows PySem.Calls
open Sem (wp)
namespace Mine
abbrev NoE : Value → Shared → Prop := fun _ _ => False

section
variable {α : Type} {M : Model} {A : Around} {E : Value → Shared → Prop} {s : Shared} {env : Env}

theorem P_onRaise0 {m : Sem α} {k : Value → Sem Unit} {Q : α → Shared → Prop} (h : wpP M A m Q NoE s) : wpP M A (m.onRaise k) Q E s :=
  P_onRaise (P_mono h (fun _ _ x => x) fun _ _ x => x.elim)
theorem P_toE {t : Sem α} {Q : α → Shared → Prop} (h : wpP M A t Q NoE s) : wpP M A t Q E s := P_mono h (fun _ _ x => x) fun _ _ x => x.elim
theorem A_toE {t : Sem α} {Q : α → Shared → Prop} (h : wpAny M A t Q NoE s) : wpAny M A t Q E s := wpAny_mono h (fun _ _ x => x) fun _ _ x => x.elim
theorem P_keep {vs : List Value} {m : Sem α} {Q : α → Shared → Prop} (h : wpP M A m Q E s) : wpP M A (m.keep vs) Q E s :=
  fun Γ p hΓ hd hc => by rw [Sem.wp_keep]; exact h Γ p hΓ hd hc
theorem P_execs_nil {Q : Flow → Shared → Prop} (h : Q .next s) : wpP M A (execs [] env) Q E s := P_lift (wpAny_execs_nil h)
theorem P_execs_cons {st : Stmt} {rest : List Stmt} {Q : Flow → Shared → Prop}
    (h : wpP M A (exec st env) (fun f s' => match f with | .next => wpP M A (execs rest env) Q E s' | f => Q f s') E s) : wpP M A (execs (st :: rest) env) Q E s := by
  rw [execs_cons]
  refine P_bind (P_mono h (fun f s' h' => ?_) fun _ _ x => x)
  cases f <;> first | exact h' | exact P_pure h'
theorem P_execs_lift {st : Stmt} {rest : List Stmt} {Q : Flow → Shared → Prop}
    (h : wpAny M A (exec st env) (fun f s' => match f with | .next => wpP M A (execs rest env) Q E s' | f => Q f s') E s) : wpP M A (execs (st :: rest) env) Q E s := P_execs_cons (P_lift h)
/-- Some statements at once, without a bytearray. -/
theorem execs_app (l₁ l₂ : List Stmt) : execs (l₁ ++ l₂) env = (execs l₁ env >>= fun f => match f with | .next => execs l₂ env | f => pure f) := by
  induction l₁ with
  | nil => rw [List.nil_append, execs_nil, pure_bind]
  | cons a r ih =>
    rw [List.cons_append, execs_cons, execs_cons, bind_assoc, ih]
    congr 1
    funext f
    cases f <;> simp only [pure_bind]
theorem P_execs_some {l₁ l₂ : List Stmt} {Q : Flow → Shared → Prop}
    (h : wpAny M A (execs l₁ env) (fun f s' => match f with | .next => wpP M A (execs l₂ env) Q E s' | f => Q f s') E s) : wpP M A (execs (l₁ ++ l₂) env) Q E s := by
  rw [execs_app]
  refine P_bindL (wpAny_mono h (fun f s' h' => ?_) fun _ _ x => x)
  cases f <;> first | exact h' | exact P_pure h'
theorem P_Assign_Attr {o : Expr} {attr : Str} {pos' pos : Pos} {value : Expr} {Q : Flow → Shared → Prop}
    (h : wpP M A (eval value env) (fun v s₁ => wpAny M A (eval o env) (fun ov s₂ => wpAny M A (setAttr ov attr v) (fun _ => Q .next) E s₂) E s₁) E s)
    (hs : swapsWith value (some (.Attribute o attr pos')) pos.line env = pure false := by rfl) : wpP M A (exec (.Assign [.Attribute o attr pos'] value pos) env) Q E s := by
  simp only [plainObj_exec_Assign_Attribute o attr pos' value pos hs, assign_Attribute]
  refine P_bindL (wpAny_standAt (P_bind (P_mono h (fun v s₁ h₁ => ?_) fun _ _ x => x)))
  refine P_lift (wpAny_bind (wpAny_bind (wpAny_holding (wpAny_mono h₁ (fun ov s₂ h₂ => wpAny_bind (wpAny_standAt (wpAny_bind (wpAny_holding (wpAny_mono h₂ (fun _ s₃ h₃ => ?_) fun _ _ x => x))))) fun _ _ x => x))))
  exact fun Γ p hΓ => by rw [Sem.wp_release]; exact wpAny_pure h₃
theorem P_Assign_Name {x : Str} {pos' pos : Pos} {value : Expr} {Q : Flow → Shared → Prop} (h : wpP M A (eval value env) (fun v s₁ => wpAny M A (storeName env x v) (fun _ => Q .next) E s₁) E s)
    (hs : swapsWith value (some (.Name x pos')) pos.line env = pure false := by rfl) : wpP M A (exec (.Assign [.Name x pos'] value pos) env) Q E s := by
  rw [exec_Assign_Name env x pos' value pos hs]
  exact P_bindL (wpAny_standAt (P_bind (P_mono h (fun v s₁ h₁ => P_lift (wpAny_bind (wpAny_standAt (wpAny_bind (wpAny_bindName (wpAny_mono h₁ (fun _ _ q => wpAny_pure q) fun _ _ x => x)))))) fun _ _ x => x)))
theorem P_Expr {e : Expr} {pos : Pos} {Q : Flow → Shared → Prop} (h : wpP M A (eval e env) (fun v s' => match v with | .ref _ => False | _ => Q .next s') E s)
    (hi : interactive env = false := by rfl) (hs : swapsWith e none pos.line env = pure false := by rfl) : wpP M A (exec (.Expr e pos) env) Q E s := by
  rw [exec_Expr env e pos hi hs]
  refine P_bindL (wpAny_standAt (P_bind (P_mono h (fun v s' h' => ?_) fun _ _ x => x)))
  have hv : ∀ a, v ≠ .ref a := fun a hva => by subst hva; exact h'
  rw [dropValue_plain hv]
  refine P_pure ?_
  cases v <;> first | exact h' | exact (hv _ rfl).elim
theorem P_If {test : Expr} {body orelse : List Stmt} {pos : Pos} {Q : Flow → Shared → Prop}
    (h : wpAny M A (isTrue test env (eval test env)) (fun b s₁ => if b then wpP M A (execs body env) Q E s₁ else wpP M A (execs orelse env) Q E s₁) E s) : wpP M A (exec (.If test body orelse pos) env) Q E s := by
  rw [exec_If]
  refine P_bindL (wpAny_standAt (P_bindL (wpAny_mono h (fun b s₁ h₁ => ?_) fun _ _ x => x)))
  cases b with
  | false => exact h₁
  | true => exact h₁
theorem P_Return {e : Expr} {pos : Pos} {Q : Flow → Shared → Prop} (h : wpP M A (eval e env) (fun v => Q (.ret v)) E s) : wpP M A (exec (.Return (some e) pos) env) Q E s := by
  rw [exec_Return_some]
  exact P_bindL (wpAny_standAt (P_bind (P_mono h (fun v s₁ h₁ => P_pure h₁) fun _ _ x => x)))
theorem P_IfExp {test body orelse : Expr} {pos : Pos} {Q : Value → Shared → Prop}
    (h : wpAny M A (isTrue test env (eval test env)) (fun b s₁ => if b then wpP M A (eval body env) Q E s₁ else wpP M A (eval orelse env) Q E s₁) E s) : wpP M A (eval (.IfExp test body orelse pos) env) Q E s := by
  rw [arm_eval_IfExp]
  refine P_bindL (wpAny_mono h (fun b s₁ h₁ => ?_) fun _ _ x => x)
  cases b with
  | false => exact h₁
  | true => exact h₁
theorem P_callWith {pos : Pos} {f : Value} {first : List Value} {args : List (Bool × Sem Value)} {Q : Value → Shared → Prop} (hstar : args.any (·.1) = false)
    (h : wpAny M A (evalArgs f true args []) (fun a s₁ => (∃ k, Looks M s₁.heap (keeperOf f) k) ∧ wpP M A (call f (first ++ a.pos) a.kw) Q E s₁) E s) :
    wpP M A (callWith pos f first args []) Q E s := by
  unfold callWith
  refine P_bindL (wpAny_holding (wpAny_mono h (fun a s₁ h₁ => P_bindL (wpAny_standAt ?_)) fun _ _ x => x))
  obtain ⟨⟨k, hk⟩, h₁⟩ := h₁
  have tail : ∀ {t : Sem Value}, wpP M A t Q E s₁ → wpP M A (t >>= fun r => holding [r] point >>= fun _ => pure r) Q E s₁ :=
    fun ht => P_bind (P_mono ht (fun r s₂ hr => P_lift (wpAny_bind (wpAny_holding (wpAny_point (wpAny_pure hr))))) fun _ _ x => x)
  simp only [hstar, List.any_nil, Bool.or_false]
  refine P_bindL (hk.here ?_)
  cases k
  all_goals dsimp only
  all_goals first
    | exact tail h₁
    | exact tail (P_operate h₁)
    | (split <;> first | exact tail h₁ | exact tail (P_keep h₁))
    | exact tail (P_keep h₁)
theorem P_CallName {x : Str} {p pos : Pos} {args : List Expr} {Q : Value → Shared → Prop}
    (h : wpAny M A (eval (.Name x p) env) (fun f s₁ => wpP M A (callWith pos f [] (backTo pos (starEach args env)) []) Q E s₁) E s) :
    wpP M A (eval (.Call (.Name x p) args [] pos) env) Q E s := P_bindL h
theorem P_MethodCall {o : Expr} {name : Str} {apos pos : Pos} {args : List Expr} {pl : Sem Bool} {Q : Value → Shared → Prop}
    (h : wpP M A (attributeBase o name env (eval o env)) (fun ov s₁ => wpAny M A (getMethod ov name pl) (fun fx s₂ => wpP M A (callWith pos fx.1 fx.2 (backTo pos (starEach args env)) []) Q E s₂) E s₁) E s)
    (he : eval (.Call (.Attribute o name apos) args [] pos) env = (do
      let ov ← attributeBase o name env (eval o env)
      standAt apos.atName
      let (f, first) ← holding [ov] (getMethod ov name pl)
      callWith pos f first (backTo pos (starEach args env)) []) := by rfl) :
    wpP M A (eval (.Call (.Attribute o name apos) args [] pos) env) Q E s := by
  rw [he]
  refine P_bind (P_mono h (fun ov s₁ h₁ => P_bindL (wpAny_standAt (P_bindL (wpAny_holding (wpAny_mono h₁ (fun fx s₂ h₂ => ?_) fun _ _ x => x))))) fun _ _ x => x)
  exact h₂
theorem P_items_cons {pos : Pos} {e : Expr} {rest : List Expr} {Q : List Value → Shared → Prop}
    (h : wpP M A (eval e env) (fun v s₁ => wpAny M A (spliced (backTo pos (starEach rest env))) (fun vs s₂ => Q (v :: vs) s₂) E s₁) E s)
    (he : starEach (e :: rest) env = (false, eval e env) :: starEach rest env := by rfl) : wpP M A (spliced (backTo pos (starEach (e :: rest) env))) Q E s := by
  rw [he]
  show wpP M A (do
    let v ← eval e env
    let here ← (pure [v] : Sem (List Value))
    return here ++ (← holding here (spliced (backTo pos (starEach rest env))))) Q E s
  exact P_bind (P_mono h (fun v s₁ h₁ => P_lift (wpAny_bind (wpAny_pure (wpAny_bind (wpAny_holding (wpAny_mono h₁ (fun vs s₂ h₂ => wpAny_pure h₂) fun _ _ x => x)))))) fun _ _ x => x)
theorem P_Tuple {elts : List Expr} {k : Nat} {pos : Pos} {Q : Value → Shared → Prop}
    (h : wpP M A (spliced (backTo pos (starEach elts env)))
      (fun vs s₁ => vs.length ≤ sizeLine ∧ Q (.ref s₁.heap.objs.size) { s₁ with heap := s₁.heap.push { cls := .type "tuple", data := .seq vs.toArray } }) E s) : wpP M A (eval (.Tuple elts k pos) env) Q E s := by
  rw [arm_eval_Tuple]
  exact P_bindL (wpAny_standAt (P_bind (P_mono h (fun vs s₁ h₁ => P_lift (wpAny_newObj_type h₁.2 (by show vs.toArray.size ≤ sizeLine; rw [List.size_toArray]; exact h₁.1))) fun _ _ x => x)))
theorem P_Try {body orelse final : List Stmt} {h₀ : ExceptHandler} {hs : List ExceptHandler} {pos : Pos} {Q : Flow → Shared → Prop}
    (h : wpP M A (execs body env) (fun f s₁ => match f with | .next => wpP M A (execs orelse env) Q E s₁ | f => Q f s₁) NoE s) :
    wpP M A (exec (.Try body (h₀ :: hs) orelse [] pos) env) Q E s := by
  rw [arm_exec_Try]
  refine P_bindL (wpAny_standAt ?_)
  unfold tryStmt
  simp only [List.isEmpty_nil, if_true, List.isEmpty_cons, Bool.false_and, Bool.false_eq_true, if_false]
  refine P_bind (P_attempt (P_mono h (fun f s₁ h₁ => ?_) fun e s₁ h₁ => h₁.elim))
  cases f <;> first | exact h₁ | exact P_pure h₁
theorem P_While {test : Expr} {body orelse : List Stmt} {pos : Pos} {Q : Flow → Shared → Prop}
    (h : codeP M A (.whileLoop test body orelse env) (fun r s' => match r with | .ok f => Q f s' | .error e => False) s) : wpP M A (exec (.While test body orelse pos) env) Q E s := by
  rw [exec_While]
  refine P_bindL (wpAny_standAt ?_)
  unfold runOwn
  refine P_onRaise0 (P_run (codeP_mono h fun r s' hr => ?_))
  cases r <;> exact hr
end

section
variable {prog : Program} {w : World} {A : Around} {E : Value → Shared → Prop} {R : Result → Shared → Prop} {s : Shared} {env : Env}
/-- A loop whose first turn returns. -/
theorem codeP_while1 {test : Expr} {body orelse : List Stmt}
    (h : wpAny (model prog w) A (isTrue test env (eval test env)) (fun b s₂ => b = true ∧ wpP (model prog w) A (execs body env) (fun f s₃ => ∃ v, f = .ret v ∧ R (.ok (.ret v)) s₃) NoE s₂) NoE s) :
    codeP (model prog w) A (.whileLoop test body orelse env) R s := by
  refine codeP_of_tree rfl ?_
  show wpP _ A ((whileTurn test body orelse env).onRaise (fun x => do noteFrame x env; theTreesLotGoes x)) _ _ s
  refine P_onRaise0 ?_
  simp only [whileTurn]
  refine P_bindL (wpAny_mono h (fun b s₂ h₂ => ?_) fun _ _ x => x)
  obtain ⟨rfl, h₂⟩ := h₂
  simp only [if_true]
  refine P_bind (P_mono h₂ (fun f s₃ h₃ => ?_) fun _ _ x => x)
  obtain ⟨v, rfl, hR⟩ := h₃
  exact P_pure hR
theorem codeP_func {body : List Stmt}
    (h : wpP (model prog w) (A.deeper env) (execs body env) (fun f s' => R (.ok (.ret (match f with | .ret v => v | _ => .none))) s') NoE s) : codeP (model prog w) A (.func body env) R s := by
  refine codeP_of_tree rfl ?_
  show wpP _ (A.deeper env) (do point; match ← (execs body env).onRaise (leaving env) with | .ret v => ret v | _ => ret .none) _ _ s
  refine P_bindL (wpAny_point (P_bind (P_onRaise0 (P_mono h (fun f s' h' => ?_) fun _ _ h' => h'))))
  cases f <;> exact P_pure h'
theorem codeP_call_function {a : Addr} {args : Args} {o : Obj} {fd : FuncData} {body : List Stmt} (hroom : A.depth < recursionLimit) (ho : s.heap.get? a = some o)
    (hd' : o.data = .func fd) (hco : fd.scope.isCoroutine = false) (hgen : fd.scope.isGenerator = false) (hbody : fd.body = .stmts body) (hcd : s.heap.CodeRec fd.code fd.qualname)
    (h : wpAny (model prog w) A.in1 (bindArgs fd args) (fun binds s₁ =>
      wpAny (model prog w) A.in1 (newFunctionEnv fd.scope fd.globals fd.closure binds (fd.qualname ++ ".<locals>.") (some a) fd.code none fd.builtins)
        (fun env s₂ => s₂.heap.NoLimit ∧ codeP (model prog w) A (.func body env) R s₂) (fun e s' => R (.error e) s') s₁) (fun e s' => R (.error e) s') s) :
    codeP (model prog w) A (.call (.ref a) args) R s := by
  refine codeP_of_tree rfl ?_
  show wpP _ A.in1 (callAny (.ref a) args) _ _ s
  simp only [callAny]
  refine P_bindL (wpAny_load ho ?_)
  obtain ⟨c, oc, vs, tq, hc, hoc, hdc, hq⟩ := hcd
  simp only [hd', callFunction, hco, hgen, hbody, hc]
  rw [hc] at h
  refine P_bindL (m := field (.ref c) 1) (wpAny_field hoc hdc hq (P_bindL (wpAny_pure ?_)))
  refine P_bindL (wpAny_mono h (fun binds s₁ h₁ => P_bindL (wpAny_mono h₁ (fun env s₂ h₂ => P_bindL (wpAny_enterFrame h₂.1 hroom ?_)) fun _ _ h' => h')) fun _ _ h' => h')
  exact P_pure (And.intro rfl h₂.2)
theorem codeP_call_def {a : Addr} {o : Obj} {fd : FuncData} {body : List Stmt} {args : Args} {binds : List (Str × Value)}
    (hroom : A.depth < recursionLimit) (ho : s.heap.get? a = some o) (hdata : o.data = .func fd) (hlim : s.heap.NoLimit) (hcd : s.heap.CodeRec fd.code fd.qualname)
    (hbody : fd.body = .stmts body) (hbind : BindsTo s fd args binds)
    (hcell : ∀ x ∈ fd.scope.names, x.2 ≠ .cell) (hloc : ∀ x ∈ binds, fd.scope.names.lookup x.1 = some .local)
    (h : ∀ h₀, h₀.Ns s.heap.objs.size (fun x => binds.reverse.lookup x) → (∀ b o, s.heap.get? b = some o → h₀.get? b = some o) →
      wpP (model prog w) (A.deeper (callEnv fd s.heap.objs.size a)) (execs body (callEnv fd s.heap.objs.size a)) (fun f s' => R (.ok (.ret (match f with | .ret v => v | _ => .none))) s') NoE
        { s with heap := h₀, toks := s.toks + binds.length })
    (hco : fd.scope.isCoroutine = false := by rfl) (hgen : fd.scope.isGenerator = false := by rfl) (hk : fd.scope.kind = .function := by rfl) :
    codeP (model prog w) A (.call (.ref a) args) R s := by
  refine codeP_call_function hroom ho hdata hco hgen hbody hcd (hbind _ _ _ _ ?_)
  refine wpAny_newFunctionEnv hcell hloc (fun h₀ hns₀ hsb₀ => ⟨hlim.fresh _ hsb₀, codeP_func (h h₀ hns₀ fun b o e => ?_)⟩) hk
  exact hsb₀.extBut b o (Nat.ne_of_lt (Heap.lt_size e)) (Heap.get?_push_of_some _ e)
end
end Mine

end
local macro_rules | `(tactic| walk_at "zz") => `(tactic| fail)
section
open PySem PySem.W PyProof.Rows PySem.Calls
open Sem (wp)
namespace Mine
section
variable {M : Model} {A : Around} {E : Value → Shared → Prop} {s : Shared} {env : Env}
theorem P_standIf {α : Type} {c : Prop} [Decidable c] {pos : Pos} {k : PUnit → Sem α} {Q : α → Shared → Prop} (h : wpP M A (k ()) Q E s) :
    wpP M A (if c then (standAt pos >>= k) else k ()) Q E s := by
  split
  · exact P_bindL (wpAny_standAt h)
  · exact h
theorem P_comprehension {e : Expr} {scope : Scope} {pos : Pos} {newAcc first : Sem Value} {g : Comprehension} {gs : List Comprehension} {Q : Value → Shared → Prop}
    (hcl : clausesOf e = g :: gs) (hs : ∀ x, foldedSetIterable g.iter env x = pure x)
    (hfree : ∀ x ∈ scope.names, x.2 ≠ .free) (hkind : scope.kind = .function) (hnames : ∀ x ∈ scope.names, x.2 = .local → scope.names.lookup x.1 = some .local)
    (h : wpAny M A first (fun x s₁ => wpAny M A (pyIter x) (fun it s₂ => wpAny M A newAcc (fun acc s₃ =>
      wpAny M A (newFunctionEnv scope env.globals [] [] env.qual none .none (some env)) (fun cenv s₄ =>
        codeP M A (.compStart e 0 it acc { cenv with scope := scope }) (fun r s' => ∃ m, s'.heap.Ns cenv.locals m ∧ ∀ h', Heap.SameBut cenv.locals s'.heap h' →
          match r with | .ok _ => Q acc { s' with heap := h' } | .error x => False) s₄) E s₃) E s₂) E s₁) E s) :
    wpP M A (comprehension e scope env pos newAcc false first) Q E s := by
  unfold comprehension
  rw [closureFor_none hfree, hcl]
  refine P_bindL (wpAny_mono h (fun x s₁ h₁ => P_bindL (wpAny_standAt (P_bindL (wpAny_of_eq (hs x) (P_bindL (wpAny_holding (wpAny_mono h₁ (fun it s₂ h₂ =>
    P_standIf (P_bindL (wpAny_mono h₂ (fun acc s₃ h₃ => P_bindL (wpAny_pure (P_bindL (wpAny_mono h₃ (fun cenv s₄ h₄ => ?_) fun _ _ h' => h')))) fun _ _ h' => h')))
      fun _ _ h' => h'))))))) fun _ _ h' => h')
  dsimp only
  rw [map_eq_self (l := scope.names) (fun x hx => by
    obtain ⟨n, k⟩ := x
    have : (k == NameKind.free) = false := by simpa using hfree _ hx
    simp [this])]
  have hv : ∀ x ∈ (scope.names.filter fun x => (x.2 == .local || x.2 == .cell) && x.1 != (".0" : Str)).reverse, x.2 = .local →
      Env.kindOf { cenv with scope := scope } x.1 = some .local := fun x hx hl => hnames x (List.mem_filter.mp (List.mem_reverse.mp hx)).1 hl
  refine P_holding (P_bind (P_attempt (P_holding (P_run (codeP_mono h₄ fun r s' hr => ?_)))))
  obtain ⟨m, hn, hr⟩ := hr
  cases r with
  | ok f => exact P_bindL (wpAny_holding (wpAny_comp_letGo (cenv := { cenv with scope := scope }) hkind _ s' m hv hn fun h' m' _ hs' => P_pure (hr h' hs')))
  | error x => exact (hr s'.heap (Heap.SameBut.refl ..)).elim
theorem P_ListComp {elt target iter : Expr} {ifs : List Expr} {rest : List Comprehension} {scope : Scope} {pos : Pos} {Q : Value → Shared → Prop}
    (hfree : ∀ x ∈ scope.names, x.2 ≠ .free) (hkind : scope.kind = .function) (hnames : ∀ x ∈ scope.names, x.2 = .local → scope.names.lookup x.1 = some .local)
    (h : wpAny M A (eval iter env) (fun x s₁ => wpAny M A (pyIter x) (fun it s₂ => wpAny M A (newList []) (fun acc s₃ =>
      wpAny M A (newFunctionEnv scope env.globals [] [] env.qual none .none (some env)) (fun cenv s₄ =>
        codeP M A (.compStart (.ListComp elt (⟨target, iter, ifs, 0⟩ :: rest) scope pos) 0 it acc { cenv with scope := scope })
          (fun r s' => ∃ m, s'.heap.Ns cenv.locals m ∧ ∀ h', Heap.SameBut cenv.locals s'.heap h' →
            match r with | .ok _ => Q acc { s' with heap := h' } | .error x => False) s₄) E s₃) E s₂) E s₁) E s)
    (hs : ∀ x, foldedSetIterable iter env x = pure x := by intro _; rfl) :
    wpP M A (eval (.ListComp elt (⟨target, iter, ifs, 0⟩ :: rest) scope pos) env) Q E s := by
  rw [eval_ListComp]; exact P_comprehension rfl hs hfree hkind hnames h
theorem codeP_loop {c : Code} {R : Result → Shared → Prop} (hdec : isDec c = false) (hq : c.quiet = true) (I : Nat → Shared → Prop)
    (turn : ∀ n s, I n s → wpP M (A.under c) (M.den c)
      (fun fin s' => match fin with | .done f => R (.ok f) s' | .again c' => c' = c ∧ ∃ m, m < n ∧ I m s') (fun e s' => R (.error e) s') s)
    (n : Nat) (h : I n s) : codeP M A c R s := by
  induction n using Nat.strongRecOn generalizing s with
  | ind n ih =>
    refine codeP_of_tree hdec (P_mono (turn n s h) (fun fin s' hf => ?_) fun _ _ h' => h')
    cases fin with
    | done f => exact hf
    | again c' => obtain ⟨rfl, m, hm, hI⟩ := hf; exact ⟨hq, ih m hm hI⟩
end
section
variable {prog : Program} {w : World} {A : Around} {E : Value → Shared → Prop} {R : Result → Shared → Prop} {s : Shared}
theorem codeP_compStart {elt target iter ifs rest scope pos it acc env}
    (h0 : codeP (model prog w) A (.compLoop (.ListComp elt (⟨target, iter, ifs, 0⟩ :: rest) scope pos) 0 it acc env) R s)
    (h : wpAny (model prog w) A (pyIter it) (fun it' s' => codeP (model prog w) A (.compLoop (.ListComp elt (⟨target, iter, ifs, 0⟩ :: rest) scope pos) 0 it' acc env) R s') NoE s) :
    codeP (model prog w) A (.compStart (.ListComp elt (⟨target, iter, ifs, 0⟩ :: rest) scope pos) 0 it acc env) R s := by
  refine codeP_of_tree rfl ?_
  show wpP _ _ ((compStart (.ListComp elt (⟨target, iter, ifs, 0⟩ :: rest) scope pos) 0 it acc env).onRaise (fun x => do noteFrame x env; standAt theWindowsPlace)) _ _ s
  refine P_onRaise0 ?_
  unfold compStart
  show wpP _ _ (ask >>= _) _ _ s
  refine P_bindL (wpAny_askSetting ?_)
  split
  · first
      | exact P_bindL (wpAny_pure (P_pure (And.intro rfl h0)))
      | exact P_pure (And.intro rfl h0)
  · first
      | exact P_bindL (wpAny_rule (P_bindL (wpAny_standAt (P_bindL (wpAny_mono h (fun it' s' h' => P_pure (And.intro rfl h')) fun _ _ x => x)))))
      | (refine P_bindL (wpAny_rule ?_); show wpP _ _ (standAt iter.pos >>= _) _ _ s; exact P_bindL (wpAny_standAt (P_bindL (wpAny_mono h (fun it' s' h' => P_pure (And.intro rfl h')) fun _ _ x => x))))
theorem codeP_compLoop {elt target iter : Expr} {scope : Scope} {pos : Pos} {it acc : Value} {env : Env} (I : Nat → Shared → Prop)
    (turn : ∀ n s, I n s → wpAny (model prog w) A (pyNext it) (fun r s₁ => match r with
      | none => R (.ok .next) s₁
      | some v => wpAny (model prog w) A (assign target env v) (fun _ s₂ => wpP (model prog w) A (eval elt env) (fun x s₃ =>
          wpAny (model prog w) A (call (.builtin "list.append") [acc, x]) (fun _ s₄ => ∃ m, m < n ∧ I m s₄) NoE s₃) NoE s₂) NoE s₁) NoE s)
    (n : Nat) (h : I n s) (ht : ∀ v, letOwnedTupleGo target it v = pure () := by intro _; rfl) :
    codeP (model prog w) A (.compLoop (.ListComp elt [⟨target, iter, [], 0⟩] scope pos) 0 it acc env) R s := by
  refine codeP_loop rfl rfl I (fun n s hI => ?_) n h
  show wpP _ A ((compTurn (.ListComp elt [⟨target, iter, [], 0⟩] scope pos) 0 it acc env).onRaise (fun x => do noteFrame x env; theTreesLotGoes x)) _ _ s
  refine P_onRaise0 ?_
  rw [compTurn_list1]
  refine P_bindL (wpAny_standAt (P_bindL (wpAny_mono (turn n s hI) (fun r s₁ h₁ => ?_) fun _ _ h' => h')))
  cases r with
  | none => exact P_pure h₁
  | some v =>
    refine P_bindL (wpAny_of_eq (ht v) ?_)
    exact P_bindL (wpAny_mono h₁ (fun _ s₂ h₂ => P_bind (P_bind (P_mono h₂ (fun x s₃ h₃ => P_lift (wpAny_bind (wpAny_mono h₃
      (fun _ s₄ h₄ => wpAny_pure (P_pure ⟨rfl, h₄⟩)) fun _ _ h' => h'))) fun _ _ h' => h'))) fun _ _ h' => h')
end
end Mine

end
local macro_rules | `(tactic| walk_at "zz") => `(tactic| fail)
section
open PySem PySem.W PyProof.Rows PySem.Calls Builtin Builtin.Bytes
open Sem (wp)
namespace Mine
section
variable {prog : Program} {w : World} {A : Around} {E : Value → Shared → Prop} {s : Shared}
theorem entry_ban : entryFor table "bytearray.__new__" = some Builtin.«list.__new__» := entryFor_alias (id' := "list.__new__") (by rw [fastTable_eq_tree]; kernel_rfl) (by decide +kernel) (by decide +kernel) (by rw [fastTable_eq_tree]; kernel_rfl)
theorem plain_ban : plainId "bytearray.__new__" = true := by decide +kernel
theorem newCall_ba : checkBuiltinCall "bytearray.__new__" ⟨[.type "bytearray"], []⟩ = pure () := by kernel_rfl
theorem typeCall_ba : checkTypeCall "bytearray" ⟨[], []⟩ = pure () := by kernel_rfl

theorem entry_bai : entryFor table "bytearray.__init__" = some Builtin.«bytearray.__init__» := entryFor_of_tree (by kernel_rfl)
theorem mro_ba : mroOf (.type "bytearray") = pure [.type "bytearray", .type "object"] := by kernel_rfl
theorem lookup_ba_new : typeLookup (.type "bytearray") "__new__" = pure (some (.builtin "bytearray.__new__")) := by rw [typeLookup_type, builtinLookup_eq_fast]; kernel_rfl
theorem made_ba : Bind.madeBy (.type "bytearray") = pure (some "bytearray.__new__") := madeBy_type mro_ba lookup_ba_new (by decide +kernel)
theorem slot_bai : Slot "bytearray" "__init__" "bytearray.__init__" := Slot.of (T := "bytearray") (name := "__init__") (owner := "bytearray") (n := "__init__") (by rw [typeLookup_type, builtinLookup_eq_fast]; kernel_rfl) (by decide +kernel) (by decide +kernel) (by decide +kernel)
    (.inl (by decide +kernel)) (by rw [isSubtype_type]; kernel_rfl)
theorem rel_ba : typeLookup (.type "bytearray") "__release_buffer__" = pure (some (.builtin "bytearray.__release_buffer__")) := by rw [typeLookup_type, builtinLookup_eq_fast]; kernel_rfl
theorem sub_ba : isSubtype (.type "bytearray") (.type "bytearray") = pure true := by rw [isSubtype_type]; kernel_rfl

abbrev baObj (b : Array UInt8) : Obj := { cls := .type "bytearray", data := .bytearray b }
theorem code_ba_new {Q₁ : Value → Shared → Prop} (h : Q₁ (.ref s.heap.objs.size) { s with heap := s.heap.push (baObj #[]) }) :
    codeAny (model prog w) A (.call (.builtin "bytearray.__new__") ⟨[.type "bytearray"], []⟩) (wants Q₁ E) s := by
  refine codeAny_of_tree ?_
  show wpAny _ A.in1 (do checkBuiltinCall "bytearray.__new__" ⟨[.type "bytearray"], []⟩; again (.builtin "bytearray.__new__" ⟨[.type "bytearray"], []⟩)) _ _ s
  refine wpAny_bind (wpAny_of_eq newCall_ba (wpAny_pure ⟨plainId_quiet plain_ban _, codeAny_builtin_stack entry_ban rfl fun p st => ?_⟩))
  rw [Around.under_plainId plain_ban _]
  have hsub := sub_ba
  have hown : ("bytearray.__new__".splitOn ".__new__").headD "" = "bytearray" := by rw [split_bytearray]; rfl
  obtain ⟨hp, g, d, tk, os⟩ := s
  simp only [hown]
  wp_walk
  exact h
end
end Mine

end
local macro_rules | `(tactic| walk_at "zz") => `(tactic| fail)
section
open PySem PySem.W PyProof.Rows PySem.Calls Builtin Builtin.Bytes
open Sem (wp)
namespace Mine
section
variable {prog : Program} {w : World} {A : Around} {E : Value → Shared → Prop} {s : Shared}
theorem ba_notType : (Value.type "bytearray" == Value.type "type") = false := by decide +kernel
theorem ba_can : ((Manifest.find? "bytearray").bind (·.mro.findSome? fun t => (Manifest.find? t).bind fun b => if b.noNew then some true else if b.attrs.any (·.1 == "__new__") then some false else none)).getD false = false := by decide +kernel
theorem den_builtin {id : String} {b : Builtin} (h : entryFor table id = some b) (args : Args) : (model prog w).den (.builtin id args) = b args := by
  show (match entryFor table id with | some b => b args | none => unsupported ((withoutEnding? id "#data").getD id)) = _
  rw [h]
theorem codeP_call_builtin {id : String} {args : Args} {b : Builtin} {R : Result → Shared → Prop} (hq : plainId id = true) (hdec : decodersThatHold.contains id = false) (hb : entryFor table id = some b)
    (h : wpAny (model prog w) A.in1 (checkBuiltinCall id args) (fun _ s₁ => wpP (model prog w) A.in1 (b args) (FinP (model prog w) A R) (fun e s' => R (.error e) s') s₁)
      (fun e s' => R (.error e) s') s) : codeP (model prog w) A (.call (.builtin id) args) R s := by
  refine codeP_of_tree rfl ?_
  show wpP _ A.in1 (do checkBuiltinCall id args; again (.builtin id args)) _ _ s
  refine P_bindL (wpAny_mono h (fun _ s₁ h₁ => P_pure (show FinP _ _ _ (.again (.builtin id args)) _ from ⟨plainId_quiet hq args, codeP_of_tree hdec ?_⟩)) fun _ _ h' => h')
  refine P_of_eq (den_builtin hb _) ?_
  rw [Around.under_plainId hq args]; exact h₁
theorem args_bai (a : Value) : argsOk "bytearray.__init__" ⟨[a], []⟩ := by unfold argsOk; kernel_rfl
theorem bo_bai : bindOptional "bytearray.__init__" "bytearray" ["source", "encoding", "errors"] [] [] = pure [none, none, none] := by kernel_rfl
theorem drop_ba : "bytearray.__release_buffer__".dropRight ("__release_buffer__".length + 1) = "bytearray" := by decide +kernel
theorem sub_bb : isSubtype (.type "bytearray") (.type "bytearray") = pure true := by rw [isSubtype_type]; kernel_rfl
set_option maxHeartbeats 1000000 in
theorem bytearray0_P {R : Result → Shared → Prop} (hg : A.guards = some [])
    (h : ∀ h', h'.get? s.heap.objs.size = some (baObj #[]) → Heap.SameBut s.heap.objs.size (s.heap.push (baObj #[])) h' → R (.ok (.ret (.ref s.heap.objs.size))) { s with heap := h' }) :
    codeP (model prog w) A (.call (.type "bytearray") ⟨[], []⟩) R s := by
  refine codeP_of_tree rfl ?_
  show wpP _ _ (callAny (.type "bytearray") _) _ _ _
  refine P_pure (show FinP _ _ _ (.again (.builtin "type.__call__" ⟨[.type "bytearray"], []⟩)) _ from ⟨Code.quiet_builtin _ (by decide +kernel), ?_⟩)
  refine codeP_of_tree (by decide +kernel) ?_
  refine P_of_eq (den_builtin F.entry_type_call _) ?_
  rw [Around.under_plain (weight_type_call_type "bytearray" [] []) (units_type_call_type "bytearray" [] [])]
  unfold Builtin.«type.__call__»
  simp only [typeCall_ba, mro_ba, made_ba, pure_bind, ba_notType, ba_can, Bool.false_eq_true, if_false, List.isEmpty]
  refine P_bindL (wpAny_holding (wpAny_call (codeAny_mono (code_ba_new (Q₁ := fun v s' => v = .ref s.heap.objs.size ∧ s' = { s with heap := s.heap.push (baObj #[]) }) (E := fun _ _ => False) ⟨rfl, rfl⟩) fun r s₁ hr => ?_)))
  rcases r with e | (v | _ | _ | _) <;> first | exact hr.elim | skip
  obtain ⟨rfl, rfl⟩ := hr
  obtain ⟨hp, g, d, tk, os⟩ := s
  dsimp only at h ⊢
  have ho : (hp.push (baObj #[])).get? hp.objs.size = some (baObj #[]) := Heap.get?_push_size _ rfl
  have hT : Shared.TypeIs ⟨hp.push (baObj #[]), g, d, tk, os⟩ (.ref hp.objs.size) "bytearray" := ⟨_, ho, rfl⟩
  refine P_bindL (wpAny_isInstance hT sub_bb ?_)
  rw [if_neg (by decide)]
  unfold callSpecial?
  refine P_bind (P_holding (P_bindL (wpAny_specialOf hT slot_bai.lookup ?_)))
  dsimp only
  refine P_holding (P_bindL (wpAny_of_eq (slot_bai.bind _) ?_))
  dsimp only
  refine P_bind (P_call (codeP_call_builtin slot_bai.plain (by decide +kernel) entry_bai (slot_bai.check _ _ _ _ _ _ _ _ hT (args_bai _) ?_)))
  unfold Builtin.«bytearray.__init__»
  dsimp only
  refine P_bindL ?_
  unfold ownRelease slotIsOwn
  refine wpAny_bind (wpAny_bind (wpAny_specialOf hT rel_ba ?_))
  dsimp only
  rw [if_neg (by decide +kernel)]
  rw [drop_ba]
  refine (wpAny_isInstance hT sub_bb ?_)
  refine wpAny_pure ?_
  rw [if_neg (by decide)]
  refine P_bindL (wpAny_of_eq bo_bai ?_)
  dsimp only
  refine P_bindL (m := checkCodecArg "bytearray.__init__" "bytearray" "encoding" none) (wpAny_pure ?_)
  refine P_bindL (m := checkCodecArg "bytearray.__init__" "bytearray" "errors" none) (wpAny_pure ?_)
  have hgA : A.in1.in1.guards = some [] := hg
  refine P_bind ?_
  show wpP _ _ (exported (.ref hp.objs.size) >>= fun b => _) _ _ _
  refine P_bind (P_exported hgA ?_)
  show wpP _ _ (exportsOf (.ref hp.objs.size) >>= fun b => _) _ _ _
  refine P_bindL (wpAny_bind (wpAny_load ho (wpAny_pure ?_)))
  refine P_pure ?_
  rw [if_neg (by decide)]
  refine P_bindL (m := updateBytearray hp.objs.size fun _ => #[]) ?_
  unfold updateBytearray
  refine wpAny_bind (wpAny_load ho ?_)
  dsimp only
  have hs : Heap.SameBut hp.objs.size (hp.push (baObj #[])) ((hp.push (baObj #[])).update hp.objs.size (Obj.mapBytearray fun _ => #[])) := Heap.SameBut.update ..
  have ho' : ((hp.push (baObj #[])).update hp.objs.size (Obj.mapBytearray fun _ => #[])).get? hp.objs.size = some (baObj #[]) := Heap.get?_update_self _ ho rfl
  refine wpAny_bind (wpAny_update ho (wpAny_lookBehind ho' rfl ?_))
  rw [if_neg (by decide), if_neg (by decide)]
  refine P_bindL (wpAny_pure (P_pure ?_))
  show wpP _ _ (pure (some Value.none)) _ _ _
  refine P_pure ?_
  dsimp only
  rw [if_neg (by decide)]
  refine P_pure ?_
  exact h _ ho' hs
end
end Mine

end
local macro_rules | `(tactic| walk_at "zz") => `(tactic| fail)
section
open PySem PySem.W PyProof.Rows PySem.Calls
open Sem (wp)
namespace Mine
section
variable {prog : Program} {w : World} {A : Around} {K : Frag} {C : Addr} {R : Result → Shared → Prop} {h : Heap} {g : Array GenState} {d : Drawn} {t : Nat} {os : OsState}
theorem tc_dec (args : Args) : isDec (.builtin "type.__call__" args) = false := by
  show Builtin.Bytes.decodersThatHold.contains "type.__call__" = false
  decide +kernel
theorem cls_notType (C : Addr) : (Value.ref C == Value.type "type") = false := rfl
/-- The road from a class's call to type.__call__. -/
theorem P_toTypeCall {oc : Value} {od : Option Addr} {cd : ClassData} {sl : Array (Option Value)} {args : Args} (hC : h.get? C = some ⟨oc, od, .cls cd, sl⟩)
    (call : Looks (model prog w) h (specialOf (.ref C) "__call__") (some (.builtin "type.__call__"))) (typ : Looks (model prog w) h (isInstance (.ref C) (.type "type")) true)
    (hq : wpP (model prog w) (A.under (.builtin "type.__call__" ⟨.ref C :: args.pos, args.kw⟩)) (Builtin.«type.__call__» ⟨.ref C :: args.pos, args.kw⟩) (FinP (model prog w) A R) (fun e s' => R (.error e) s') ⟨h, g, d, t, os⟩) :
    codeP (model prog w) A (.call (.ref C) args) R ⟨h, g, d, t, os⟩ := by
  refine codeP_of_tree rfl ?_
  show wpP _ _ (callAny (.ref C) _) _ _ _
  refine P_bindL (m := load C) (wpAny_load hC ?_)
  show wpP _ _ (callAny.viaDunder (.ref C) _) _ _ _
  unfold callAny.viaDunder
  refine P_bindL (call.at ?_)
  dsimp only
  rw [tc_bind]
  refine P_bindL (wpAny_pure (P_bindL (wpAny_pure ?_)))
  refine P_pure (show FinP _ _ _ (Fin.again (.call (.builtin "type.__call__") ⟨.ref C :: args.pos, args.kw⟩)) _ from And.intro rfl ?_)
  refine codeP_of_tree rfl ?_
  show wpP _ A.in1 (do checkBuiltinCall "type.__call__" ⟨.ref C :: args.pos, args.kw⟩; again (.builtin "type.__call__" ⟨.ref C :: args.pos, args.kw⟩)) _ _ _
  refine P_bindL (check_slot tc_kind tc_split typ (tc_args _ _ _) ?_)
  refine P_pure (show FinP _ _ _ (.again (.builtin "type.__call__" ⟨.ref C :: args.pos, args.kw⟩)) _ from ⟨Code.quiet_builtin _ (by decide +kernel), codeP_of_tree (tc_dec _) ?_⟩)
  rw [den_builtin entry_typeCall ⟨.ref C :: args.pos, args.kw⟩]
  exact hq
/-- What the new object must be, and its __init__. -/
def Born (M : Model) (A : Around) (C : Addr) (rest : List Value) (kw : List (Str × Value)) (R : Result → Shared → Prop) (obj : Value) (s₁ : Shared) : Prop :=
  Looks M s₁.heap (isInstance obj (.ref C)) true ∧ ∃ f, Looks M s₁.heap (specialOf obj "__init__") (some (.ref f)) ∧ Looks M s₁.heap (bindSpecial (.ref f) obj) (.ref f, [obj]) ∧
    codeP M A (.call (.ref f) ⟨obj :: rest, kw⟩) (fun r s' => r = .ok (.ret .none) ∧ R (.ok (.ret obj)) s') s₁
set_option maxHeartbeats 1000000 in
theorem P_born {A₀ : Around} {rest : List Value} {kw : List (Str × Value)} {obj : Value} {s : Shared} (h : Born (model prog w) A C rest kw R obj s) :
    wpP (model prog w) A (isInstance obj (.ref C) >>= fun b => if (!b) = true then (rule "type.call.new-gave-other-type" >>= fun _ => ret obj) else
      holding [obj] (callSpecial? obj "__init__" rest kw) >>= fun z => match z with
        | none => ret obj
        | some r => if (r != Value.none) = true then (do
              rule "type.call.init-returned-value"
              let n ← PySem.typeNameOf r
              raiseErrorMade "TypeError" (toString "__init__() should return None, not '" ++ toString n ++ toString "'")
              ret obj) else ret obj) (FinP (model prog w) A₀ R) (fun e s' => R (.error e) s') s := by
  obtain ⟨hi, f, hf, hb, hc⟩ := h
  refine P_bindL (hi.here ?_)
  rw [if_neg (by decide)]
  unfold callSpecial?
  refine P_bind (P_holding (P_bindL (hf.here ?_)))
  dsimp only
  refine P_holding (P_bindL (hb.here ?_))
  dsimp only
  refine P_bind (P_call (codeP_mono hc fun r s' hr => ?_))
  obtain ⟨rfl, hR⟩ := hr
  dsimp only
  refine P_pure ?_
  dsimp only
  rw [if_neg (by decide)]
  exact P_pure hR
/-- The call of a class: a new object by «new», then «init» with a bytearray somewhere. -/
theorem P_typeCall {A₀ : Around} {cd : ClassData} {rest : List Value} {kw : List (Str × Value)} {s : Shared} (md : Option String)
    (hne : cd.mro.isEmpty = false) (hm : Looks (model prog w) s.heap (mroOf (.ref C)) cd.mro) (made : Looks (model prog w) s.heap (Bind.madeBy (.ref C)) md)
    (h : match md with
      | some id => wpAny (model prog w) A (PySem.call (.builtin id) (.ref C :: rest) kw) (Born (model prog w) A C rest kw R) (fun e s' => R (.error e) s') s
      | none => wpAny (model prog w) A (getAttr (.ref C) "__new__") (fun nf s₁ => wpAny (model prog w) A (PySem.call nf (.ref C :: rest) kw) (Born (model prog w) A C rest kw R) (fun e s' => R (.error e) s') s₁) (fun e s' => R (.error e) s') s) :
    wpP (model prog w) A (Builtin.«type.__call__» ⟨.ref C :: rest, kw⟩) (FinP (model prog w) A₀ R) (fun e s' => R (.error e) s') s := by
  unfold Builtin.«type.__call__»
  simp only [cls_notType, Bool.false_eq_true, if_false]
  refine P_bindL (hm.here ?_)
  rw [hne]
  simp only [Bool.false_eq_true, if_false]
  refine P_bindL (made.here ?_)
  cases md with
  | some id =>
    dsimp only
    refine P_bindL (wpAny_pure (P_bindL (wpAny_holding (wpAny_mono h (fun obj s₁ h₁ => ?_) fun _ _ x => x))))
    exact P_born h₁
  | none =>
    dsimp only
    refine P_bindL (wpAny_mono h (fun nf s₁ h₁ => P_bindL (wpAny_holding (wpAny_mono h₁ (fun obj s₂ h₂ => ?_) fun _ _ x => x))) fun _ _ x => x)
    exact P_born h₂
end
end Mine

end
local macro_rules | `(tactic| walk_at "zz") => `(tactic| fail)
section
open PySem PySem.W PyProof.Rows PySem.Calls
open Sem (wp)
namespace Mine
theorem P_call_K {prog : Program} {w : World} {A₀ A : Around} {s : Shared} {base h₀ : Heap} {outer : List Env} {L a : Addr} {m : Str → Option Value} {cn : Str} {cs : Scope} {ccd : Value} {news : List (Addr × Obj)} {K : Frag}
    {R : Result → Shared → Prop} {name qual : Str} {params : Arguments} {body : List Stmt} {scope : Scope} {dV kV doc pm cdv ct oc : Value} {an od : Option Addr} {osl : Array (Option Value)} {f : Addr} {args : Args} {binds : List (Str × Value)}
    (B : Below A₀ base outer h₀) (F : Fr h₀ L s.heap m) (N : News h₀ L s.heap news) (X : K.In s.heap) (hlim : h₀.NoLimit) (hA : A.frames = some (envOf cn cs L a ccd :: outer))
    (ho : K.lookup f = some ⟨oc, od, .func (fnOf name qual params body scope dV kV doc pm an cdv ct), osl⟩) (hcd : codeIn K cdv qual = true) (hroom : A.depth < recursionLimit)
    (hbind : BindsTo s (fnOf name qual params body scope dV kV doc pm an cdv ct) args binds) (hloc : ∀ y ∈ binds, scope.names.lookup y.1 = some .local)
    (h : ∀ g L' h₁, Fr h₀ L g m → Fr g L' h₁ (fun y => binds.reverse.lookup y) → News g L' h₁ news → Below A base (envOf cn cs L a ccd :: outer) g → h₀.StaysIn g →
      wpP (model prog w) (A.deeper (envOf qual scope L' f cdv)) (execs body (envOf qual scope L' f cdv))
        (fun fl s' => LeaveK h₀ L m g R (match fl with | .ret v => v | _ => .none) s') NoE
        { s with heap := h₁, toks := s.toks + binds.length })
    (hck : cs.kind = .function := by rfl) (hco : scope.isCoroutine = false := by rfl) (hgen : scope.isGenerator = false := by rfl) (hk : scope.kind = .function := by rfl)
    (hcell : ∀ x ∈ scope.names, x.2 ≠ .cell := by decide) : codeP (model prog w) A (.call (.ref f) args) R s := by
  refine codeP_call_def (fd := fnOf name qual params body scope dV kV doc pm an cdv ct) (body := body) (binds := binds) hroom (X _ _ ho) rfl (hlim.keeps F.keep) (codeRec_of X hcd) rfl hbind hcell hloc (fun h₁ hns hk₁ => ?_) hco hgen hk
  have nm : ∀ b o, h₀.get? b = some o → b ∉ news.map (·.1) := fun b o e q => by
    obtain ⟨p, hp, rfl⟩ := List.mem_map.mp q
    rw [(N p hp).2.2] at e; cases e
  have st : h₀.StaysIn (hideAll s.heap (news.map (·.1))) := fun b o e => hideAll_get _ (F.keep b o e) (nm b o e)
  obtain ⟨oL, es, ep, hL, hLd, hLk, hLf⟩ := F.ns
  have nL : L ∉ news.map (·.1) := fun q => by
    obtain ⟨p, hp, e⟩ := List.mem_map.mp q
    exact (N p hp).2.1 e
  have hLg := hideAll_get (news.map (·.1)) hL nL
  have B₁ := B.push (name := cn) (scope := cs) (a := a) (cd := ccd) F hck
  have B₂ : Below A base (envOf cn cs L a ccd :: outer) (hideAll s.heap (news.map (·.1))) := ⟨hA, fun b o e => st b o (B.stays b o e), funFrames_hideAll B₁.frames fun env he b hb hf => by
    cases he with
    | head => exact nL ((Option.some.inj hf : L = b) ▸ hb)
    | tail _ he =>
      obtain ⟨L₁, o₁, hf₁, ho₁⟩ := funFrames_in B.frames env he
      rw [hf₁] at hf
      exact nm L₁ o₁ ho₁ ((Option.some.inj hf : L₁ = b) ▸ hb)⟩
  refine P_mono (h _ s.heap.objs.size h₁ ⟨⟨oL, es, ep, hLg, hLd, hLk, hLf⟩, st, F.above⟩ ⟨hns, fun b o e => hk₁ b o (of_hideAll _ e), Nat.le_of_eq (hideAll_size _ _)⟩
    (fun p hp => ⟨hk₁ _ _ (N p hp).1, Nat.ne_of_lt (Heap.lt_size (N p hp).1), hideAll_none _ (List.mem_map_of_mem hp)⟩) B₂ st) (fun fl s' hl => ?_) fun _ _ y => y
  obtain ⟨L', m', news', F', N', k⟩ := hl
  refine k ⟨⟨oL, es, ep, F'.keep L oL hLg, hLd, hLk, hLf⟩, fun b o e => F'.keep b o (st b o e), F.above⟩ fun p hp => ⟨(N' p hp).1, fun q => ?_, ?_⟩
  · have := (N' p hp).2.2; rw [q, hLg] at this; cases this
  · cases q : h₀.get? p.1 with
    | none => rfl
    | some o => have := (N' p hp).2.2; rw [st _ _ q] at this; cases this
theorem code_defP {prog : Program} {w : World} {A₀ A : Around} {s : Shared} {base h₀ : Heap} {outer : List Env} {L a : Addr} {m : Str → Option Value} {cn : Str} {cs : Scope} {ccd : Value} {news : List (Addr × Obj)} {K : Frag}
    {p : Program} {loose : List Str} {mean : ExcName → Option Value} {mg mb : Str → Option Value}
    {R : Result → Shared → Prop} {name qual : Str} {params : Arguments} {body : List Stmt} {scope : Scope} {dV kV doc pm cdv ct oc : Value} {an od : Option Addr} {osl : Array (Option Value)} {f : Addr} {args : Args} {binds : List (Str × Value)}
    (B : Below A₀ base outer h₀) (F : Fr h₀ L s.heap m) (X₀ : K.In h₀) (N : News h₀ L s.heap news) (T : Top p loose mean mg mb h₀) (hA : A.frames = some (envOf cn cs L a ccd :: outer)) (hck : cs.kind = .function)
    (ho : K.lookup f = some ⟨oc, od, .func (fnOf name qual params body scope dV kV doc pm an cdv ct), osl⟩) (hcd : codeIn K cdv qual = true) (hroom : A.depth < recursionLimit)
    (hbind : BindsTo s (fnOf name qual params body scope dV kV doc pm an cdv ct) args binds) (hloc : ∀ y ∈ binds, scope.names.lookup y.1 = some .local)
    (h : ∀ g L' h₁ tk, Fr h₀ L g m → Fr g L' h₁ (fun y => binds.reverse.lookup y) → News g L' h₁ news → Below A base (envOf cn cs L a ccd :: outer) g → K.In g → Top p loose mean mg mb g →
      wpP (model prog w) (A.deeper (envOf qual scope L' f cdv)) (execs body (envOf qual scope L' f cdv))
        (fun fl s' => LeaveK h₀ L m g R (match fl with | .ret v => v | _ => .none) s') NoE
        { s with heap := h₁, toks := tk })
    (hco : scope.isCoroutine = false) (hgen : scope.isGenerator = false) (hk : scope.kind = .function)
    (hcell : ∀ x ∈ scope.names, x.2 ≠ .cell) : codeP (model prog w) A (.call (.ref f) args) R s :=
  P_call_K B F N (X₀.keeps F.keep) T.nolimit hA ho hcd hroom hbind hloc (fun g L' h₁ FG F' N' B' st => h g L' h₁ _ FG F' N' B' (X₀.keeps st) (T.keeps st)) hck hco hgen hk hcell
end Mine

end
local macro_rules | `(tactic| walk_at "zz") => `(tactic| fail)
section
open PySem PySem.W PyProof.Rows PySem.Calls
open Sem (wp)
namespace Mine
/-- Surroundings with room, of which only the frames are known. -/
def Aup (l : List Env) : Around := { depth := 401, frames := some l, guards := some [], units := 500 }
abbrev mkSc (cs : Scope) : Scope := { cs with kind := .function }
theorem aup_depth (l : List Env) : (Aup l).depth = 401 := rfl
theorem in_up {Γ : Ctx} {A : Around} {l : List Env} (h : Γ.In A) (hh : A.handled = none) (hf : A.frames = some l) (hg : A.guards = some []) (hd : A.depth ≤ 401) (hu : A.units ≤ 500) : Γ.In (Aup l) :=
  ⟨h.1.trans hh, Nat.le_trans h.2.1 hd, fun x e => h.2.2.1 x (hf.trans e), fun g e => h.2.2.2.1 g (hg.trans e), Nat.le_trans h.2.2.2.2 hu⟩
theorem below_up {Γ : Ctx} {A : Around} {l : List Env} (h : Γ.Below A) (hh : A.handled = none) (hf : A.frames = some l) (hg : A.guards = some []) (hd : A.depth ≤ 401) (hu : A.units ≤ 500) : Γ.Below (Aup l) :=
  ⟨h.1.trans hh, Nat.le_trans h.2.1 hd, fun x e => h.2.2.1 x (hf.trans e), fun g e => h.2.2.2.1 g (hg.trans e), Nat.le_trans h.2.2.2.2 hu⟩
theorem mkSc_eq {cs : Scope} (h : cs.kind = .function) : mkSc cs = cs := by
  cases cs; cases h; rfl
section
variable {α : Type} {M : Model} {A : Around} {E : Value → Shared → Prop} {s : Shared} {l : List Env}
theorem codeP_up {c : Code} {R : Result → Shared → Prop} (h : codeP M (Aup l) c R s) (hf : A.frames = some l) (hg : A.guards = some [] := by rfl) (hh : A.handled = none := by rfl) (hd : A.depth ≤ 401 := by exact Nat.le_of_ble_eq_true rfl) (hu : A.units ≤ 500 := by exact Nat.le_of_ble_eq_true rfl) : codeP M A c R s :=
  fun Γ p hc hΓ hcl => h Γ p hc (below_up hΓ hh hf hg hd hu) hcl
theorem codeAny_up {c : Code} {R : Result → Shared → Prop} (h : codeAny M (Aup l) c R s) (hf : A.frames = some l) (hg : A.guards = some [] := by rfl) (hh : A.handled = none := by rfl) (hd : A.depth ≤ 401 := by exact Nat.le_of_ble_eq_true rfl) (hu : A.units ≤ 500 := by exact Nat.le_of_ble_eq_true rfl) : codeAny M A c R s :=
  fun Γ p hc hΓ => h Γ p hc (below_up hΓ hh hf hg hd hu)
theorem wpAny_up {t : Sem α} {Q : α → Shared → Prop} (h : wpAny M (Aup l) t Q E s) (hf : A.frames = some l) (hg : A.guards = some [] := by rfl) (hh : A.handled = none := by rfl) (hd : A.depth ≤ 401 := by exact Nat.le_of_ble_eq_true rfl) (hu : A.units ≤ 500 := by exact Nat.le_of_ble_eq_true rfl) : wpAny M A t Q E s :=
  fun Γ p hΓ => h Γ p (in_up hΓ hh hf hg hd hu)
theorem wpP_up {t : Sem α} {Q : α → Shared → Prop} (h : wpP M (Aup l) t Q E s) (hf : A.frames = some l) (hg : A.guards = some [] := by rfl) (hh : A.handled = none := by rfl) (hd : A.depth ≤ 401 := by exact Nat.le_of_ble_eq_true rfl) (hu : A.units ≤ 500 := by exact Nat.le_of_ble_eq_true rfl) : wpP M A t Q E s :=
  fun Γ p hΓ a b => h Γ p (in_up hΓ hh hf hg hd hu) a b
end
theorem bio_typ (P : Params) : instIn (KF P) (.ref 519) (.type "type") = some true := by kernel_rfl
theorem bio_call (P : Params) : specialIn (KF P) (.ref 519) "__call__" = some (some (.builtin "type.__call__")) := by kernel_rfl
theorem bio_init (P : Params) : findIn (KF P) (.ref 519) "__init__" = some (some (.ref 306)) := by kernel_rfl
theorem bio_made (p : Program) (P : Params) : peek (KF P) ⟨p, P⟩ (Bind.madeBy (.ref 519)) = some none := by kernel_rfl
theorem pk_typ (P : Params) : instIn (KF P) (.ref 879) (.type "type") = some true := by kernel_rfl
theorem pk_call (P : Params) : specialIn (KF P) (.ref 879) "__call__" = some (some (.builtin "type.__call__")) := by kernel_rfl
theorem pk_init (P : Params) : findIn (KF P) (.ref 879) "__init__" = some (some (.ref 783)) := by kernel_rfl
theorem pk_made (p : Program) (P : Params) : peek (KF P) ⟨p, P⟩ (Bind.madeBy (.ref 879)) = some (some "object.__new__") := by kernel_rfl
end Mine

end
local macro_rules | `(tactic| walk_at "zz") => `(tactic| fail)
section
open PySem PySem.W PyProof.Rows
noncomputable section
namespace Mine
-- the library's quick twins of the machine
abbrev tRun := PySem.W.Fast.tw10110043849684766642
theorem eRun : @segRunT = tRun := PySem.W.Fast.te10110043849684766642
abbrev tGo := PySem.W.Fast.tw10295753902157049106
theorem eGo : @segGoT = tGo := PySem.W.Fast.te10295753902157049106
abbrev tTab := PySem.W.Fast.tw14364793385576792824
theorem eTab : treeTable = tTab := PySem.W.Fast.te14364793385576792824
abbrev tTopGo := PySem.W.Fast.tw15667345088766844465
theorem eTopGo : @topGo = tTopGo := PySem.W.Fast.te15667345088766844465
abbrev tTop := PySem.W.Fast.tw14082659384304107361
theorem eTop : @topRun = tTop := PySem.W.Fast.te14082659384304107361
abbrev tImp := PySem.W.Fast.tw10274390034422433532
theorem eImp : @importEnds = tImp := PySem.W.Fast.te10274390034422433532
abbrev tFence := PySem.W.Fast.tw14289696077712309145
theorem eFence : @fenceModules? = tFence := PySem.W.Fast.te14289696077712309145
abbrev tSeen := PySem.W.Fast.tw4187177175401517315
theorem eSeen : @openSeen = tSeen := PySem.W.Fast.te4187177175401517315
abbrev tStart := PySem.W.Fast.tw1435165496053646825
theorem eStart : @start = tStart := PySem.W.Fast.te1435165496053646825
abbrev tImpGo := PySem.W.Fast.tw14789777615569096658
theorem eImpGo : @impGoT = tImpGo := PySem.W.Fast.te14789777615569096658
abbrev tDen := PySem.W.Fast.tw11892475500146522536
theorem eDen : @denote = tDen := PySem.W.Fast.te11892475500146522536
def envT : Env := { scope := PW.main.scope, locals := mainNs, globals := mainNs, cells := [], code := vr 41, frame := some 42 }
def bodyT : List Stmt := behindTheImports PW
def cE : Code := .body bodyT envT
abbrev q0 : Pos := ⟨0, 0, 0, 0⟩
abbrev an6 : Option Value := some (.ref 6)
def SBl (w : World) (os : OsState) : SharedT := ⟨trB w.params, 43, {}, #[], {}, 323, os⟩
def SA (w : World) (os : OsState) : SharedT := ⟨trA w.params, 522, {}, #[], {}, 939, os⟩
def SC (w : World) (os : OsState) : SharedT := ⟨trC w.params, 1004, {}, #[], {}, 1565, os⟩
def SD (w : World) (os : OsState) : SharedT := ⟨trD w.params, 1017, {}, #[.finished], {}, 2601, os⟩
def SF (w : World) (os : OsState) : SharedT := ⟨trF w.params, 1267, {}, #[.finished], {}, 2967, os⟩
abbrev pos16 : Pos := ⟨130, 0, 300, 17⟩
abbrev pos27 : Pos := ⟨738, 0, 738, 8⟩
abbrev pos28 : Pos := ⟨739, 0, 739, 9⟩
abbrev pos55 : Pos := ⟨938, 0, 954, 68⟩
end Mine

end
end
local macro_rules | `(tactic| walk_at "zz") => `(tactic| fail)
section
open PySem PySem.W PyProof.Rows
noncomputable section
namespace Mine
theorem pA' (w : World) (os : OsState) : tRun tTab PW w 39 an6 1 3943 (SBl w os) (piecesOf (bodyT.take 17) envT cE q0 [topFrame q0]) = some (.next, SA w os, cE, pos16) := by kernel_rfl
theorem pB' (w : World) (os : OsState) : tRun tTab PW w 39 an6 1 3860 (SA w os) (piecesOf ((bodyT.drop 17).take 11) envT cE pos16 [topFrame q0]) = some (.next, SC w os, cE, pos27) := by kernel_rfl
theorem pD' (w : World) (os : OsState) : tRun tTab PW w 39 an6 1 2280 (SD w os) (piecesOf (bodyT.drop 29) envT cE pos28 [topFrame q0]) = some (.next, SF w os, cE, pos55) := by kernel_rfl
end Mine

end
end
local macro_rules | `(tactic| walk_at "zz") => `(tactic| fail)
section
open PySem PySem.W PyProof.Rows
noncomputable section
namespace Mine
abbrev rA : String := "comprehension-iter-twice"
abbrev rB : String := "special-get-raises"
def thB : Thread := piecesOf ((bodyT.drop 28).take 1) envT cE pos27 [topFrame q0]
def wT (w : World) : World := (w.withFollow rA true).withFollow rB true
/-- the run to the loop's first repetition, in one of the four worlds -/
def RL (w : World) (os : OsState) : Option (SharedT × Thread) := tGo tTab PW (wT w) 39 an6 1 144 (SC w os) thB
def GL (w : World) (os : OsState) : Array GenState := match RL w os with | some (s, _) => s.gens | none => #[]
def TL (w : World) (os : OsState) : Thread := match RL w os with | some (_, t) => t | none => thB
def SL (w : World) (os : OsState) : SharedT := ⟨trL w.params, 1012, {}, GL w os, {}, 1580, os⟩
theorem lTT (w : World) (os : OsState) : tGo tTab PW ((w.withFollow rA true).withFollow rB true) 39 an6 1 144 (SC ((w.withFollow rA true).withFollow rB true) os) thB = some (SL ((w.withFollow rA true).withFollow rB true) os, TL ((w.withFollow rA true).withFollow rB true) os) := by kernel_rfl
theorem lTF (w : World) (os : OsState) : tGo tTab PW ((w.withFollow rA true).withFollow rB false) 39 an6 1 144 (SC ((w.withFollow rA true).withFollow rB false) os) thB = some (SL ((w.withFollow rA true).withFollow rB false) os, TL ((w.withFollow rA true).withFollow rB false) os) := by kernel_rfl
theorem lFT (w : World) (os : OsState) : tGo tTab PW ((w.withFollow rA false).withFollow rB true) 39 an6 1 154 (SC ((w.withFollow rA false).withFollow rB true) os) thB = some (SL ((w.withFollow rA false).withFollow rB true) os, TL ((w.withFollow rA false).withFollow rB true) os) := by kernel_rfl
theorem lFF (w : World) (os : OsState) : tGo tTab PW ((w.withFollow rA false).withFollow rB false) 39 an6 1 154 (SC ((w.withFollow rA false).withFollow rB false) os) thB = some (SL ((w.withFollow rA false).withFollow rB false) os, TL ((w.withFollow rA false).withFollow rB false) os) := by kernel_rfl
theorem pL' (w : World) (os : OsState) : tRun tTab PW w 39 an6 1 12546 (SL w os) (TL w os) = some (.next, SD w os, cE, pos28) := by kernel_rfl
end Mine

end
end
local macro_rules | `(tactic| walk_at "zz") => `(tactic| fail)
section
open PySem PySem.W PyProof.Rows
noncomputable section
namespace Mine
def osO : OsState := (tStart (opening PW)).1.os
def SZ : SharedT := ⟨.nil, 0, {}, #[], {}, 1, osO⟩
def SO (w : World) : SharedT := ⟨trO w.params, 39, {}, #[], {}, 317, osO⟩
def RO (w : World) : Option (SharedT × Thread) := tImpGo tTab (opening PW) w 1014 SZ (tStart (opening PW)).2
def TO (w : World) : Thread := match RO w with | some (_, t) => t | none => (tStart (opening PW)).2
theorem imp0 : (tStart (opening PW)).1 = SZ.abs := by kernel_rfl
theorem imp1 (w : World) : tImpGo tTab (opening PW) w 1014 SZ (tStart (opening PW)).2 = some (SO w, TO w) := by kernel_rfl
theorem imp2 (w : World) : tImp tTab (opening PW) w 1 (SO w).abs (TO w) = some (SO w).abs := by kernel_rfl
theorem fence' (w : World) : (fun os => (tFence PW ⟨absHeap (trO w.params) 39 {}, #[], {}, 317, os⟩).map (fun s => (s.heap, s.gens, s.drawn, s.toks))) = fun _ => some (hp0 w.params, #[], {}, 317) := by kernel_rfl
theorem size' (w : World) : ((hp0 w.params).isNs mainGlobals && (#[] : Array GenState).size == 0, (hp0 w.params).objs.size, (hp0 w.params).nsMap mainGlobals "__annotations__") = (true, 39, an6) := by kernel_rfl
theorem pre' (w : World) (os : OsState) : tTopGo tTab PW w 39 an6 12 ⟨hp0 w.params, #[], {}, 317, os⟩ (topStub PW) = some ((SBl w os).abs, ⟨tDen tTab cE, cE, q0, [topFrame q0]⟩) := by kernel_rfl
theorem block' (w : World) (os : OsState) : tRun tTab PW w 39 an6 1 1 (SBl w os) (blockOf bodyT envT cE q0 [topFrame q0]) = some (.next, SBl w os, cE, q0) := by kernel_rfl
theorem fin' (w : World) (os : OsState) : tTop tTab PW w 39 an6 2 (SF w os).abs ⟨doneF .next, cE, pos55, [topFrame q0]⟩ = some ⟨hpF w.params, #[.finished], {}, 2967, os⟩ := by kernel_rfl
end Mine

end
end
local macro_rules | `(tactic| walk_at "zz") => `(tactic| fail)
section
open PySem PySem.W PyProof.Rows
noncomputable section
namespace Mine
def qV : Program := { PW with main := { PW.main with body := [topS 0, topS 56] } }
def looseV : List Str := [sn "_wall", sn "frozendict", sn "ExtType", sn "Timestamp", sn "DEFAULT_RECURSE_LIMIT", sn "_check_type_strict", sn "_whence", sn "_index", sn "UnsupportedOperation", sn "IOBase", sn "BufferedIOBase", sn "TextIOBase", sn "BytesIO", sn "StringIO", sn "Packer", sn "RLPException", sn "EncodingError", sn "SerializationError", sn "ListSerializationError", sn "DeserializationError", sn "ListDeserializationError", sn "ALL_BYTES", sn "Atomic", sn "Sequence", sn "big_endian_to_int", sn "int_to_big_endian", sn "BigEndianInt", sn "big_endian_int", sn "Binary", sn "binary", sn "Boolean", sn "boolean", sn "is_sedes", sn "is_sequence", sn "List", sn "encode_raw", sn "encode", sn "LONG_LENGTH", sn "length_prefix", sn "infer_sedes", sn "_law_number", sn "_law_place"]
def hkV : Hook := kHook KF asF (fun _ => by kernel_rfl)
abbrev XtV : Shared → Bool := fun s => xlAt qV [] s && recOk [] s
abbrev modsV : List Str := importedModules PW.main.body
def FF (w : World) (os : OsState) : Shared := ⟨hpF w.params, #[.finished], {}, 2967, os⟩
theorem look1 (w : World) : (fun os => staticsOk modsV (hp0 w.params) (hpF w.params) && namesBound PW (hpF w.params) && gensDone (FF w os) && laidKept (hp0 w.params) (hpF w.params)) = fun _ => true := by kernel_rfl
theorem look2 (w : World) : (fun os => tSeen qV looseV modsV XtV false (FF w os)) = fun _ => openGood qV looseV := by kernel_rfl
theorem look3 (w : World) : (fun os => hkV.obs (FF w os)) = fun _ => hkV.val w := by kernel_rfl

theorem loopRow (w : World) (os : OsState) : ∃ n, n ≤ 154 ∧ tGo tTab PW w 39 an6 1 n (SC w os) thB = some (SL w os, TL w os) := by
  refine byRow2 rB (P := fun w => ∃ n, n ≤ 154 ∧ tGo tTab PW w 39 an6 1 n (SC w os) thB = some (SL w os, TL w os)) (fun w => ?_) (fun w => ?_) w
  · exact byRow2 rA (P := fun w => ∃ n, n ≤ 154 ∧ tGo tTab PW (w.withFollow rB false) 39 an6 1 n (SC (w.withFollow rB false) os) thB = some (SL (w.withFollow rB false) os, TL (w.withFollow rB false) os))
      (fun w => ⟨154, by omega, lFF w os⟩) (fun w => ⟨144, by omega, lTF w os⟩) w
  · exact byRow2 rA (P := fun w => ∃ n, n ≤ 154 ∧ tGo tTab PW (w.withFollow rB true) 39 an6 1 n (SC (w.withFollow rB true) os) thB = some (SL (w.withFollow rB true) os, TL (w.withFollow rB true) os))
      (fun w => ⟨154, by omega, lFT w os⟩) (fun w => ⟨144, by omega, lTT w os⟩) w
theorem pieceL (w : World) (os : OsState) : ∃ n, n ≤ 12700 ∧ segRun treeTable PW w 39 an6 1 n (SC w os).abs (piecesOf ((bodyT.drop 28).take 1) envT cE pos27 [topFrame q0]) = some (.next, (SD w os).abs, cE, pos28) := by
  obtain ⟨n, hn, h⟩ := loopRow w os
  have h1 : segGoT treeTable PW w 39 an6 1 n (SC w os) thB = some (SL w os, TL w os) := by rw [eGo, eTab]; exact h
  have h2 : segRunT treeTable PW w 39 an6 1 12546 (SL w os) (TL w os) = some (.next, SD w os, cE, pos28) := by rw [eRun, eTab]; exact pL' w os
  exact ⟨n + 12546, by omega, seg_go (segGo_of h1) (segRun_of h2)⟩
theorem runOf {n : Nat} {S S' : SharedT} {t : Thread} {q : Pos} {w : World} (h : tRun tTab PW w 39 an6 1 n S t = some (.next, S', cE, q)) : segRun treeTable PW w 39 an6 1 n S.abs t = some (.next, S'.abs, cE, q) :=
  segRun_of (by rw [eRun, eTab]; exact h)
theorem bodyParts : bodyT = bodyT.take 17 ++ ((bodyT.drop 17).take 11 ++ ((bodyT.drop 28).take 1 ++ (bodyT.drop 29 ++ []))) := by kernel_rfl
theorem topRan (w : World) (os : OsState) : topRun treeTable PW w 39 an6 60000 ⟨hp0 w.params, #[], {}, 317, os⟩ (topStub PW) = some (FF w os) := by
  obtain ⟨n, hn, hL⟩ := pieceL w os
  have hfin : topRun treeTable PW w 39 an6 2 (SF w os).abs ⟨doneF .next, cE, pos55, [topFrame q0]⟩ = some (FF w os) := by rw [eTop, eTab]; exact fin' w os
  have k1 := piece_app (rest := []) (runOf (pD' w os)) (piece_nil hfin)
  have k2 := piece_app hL k1
  have k3 := piece_app (runOf (pB' w os)) k2
  have k4 := piece_app (runOf (pA' w os)) k3
  rw [← bodyParts] at k4
  have k5 := piece_block (runOf (block' w os)) k4
  have hpre : topGo treeTable PW w 39 an6 12 ⟨hp0 w.params, #[], {}, 317, os⟩ (topStub PW) = some ((SBl w os).abs, ⟨denote treeTable cE, cE, q0, [topFrame q0]⟩) := by rw [eTopGo, eTab, eDen]; exact pre' w os
  have k6 := go_top hpre k5
  have k7 := topRun_mono (60000 - (12 + (1 + (3943 + (3860 + (n + (2280 + 2))))))) _ _ _ _ k6
  rw [show 12 + (1 + (3943 + (3860 + (n + (2280 + 2))))) + (60000 - (12 + (1 + (3943 + (3860 + (n + (2280 + 2))))))) = 60000 by omega] at k7
  exact k7
theorem leftV : LeftO PW qV looseV XtV hkV.obs hkV.val 60000 false := by
  refine LeftO.of_pieces (H₀ := hp0) (H₁ := hpF) (gs₀ := #[]) (gs₁ := #[.finished]) (d₀ := {}) (d₁ := {}) (k₀ := 317) (k₁ := 2967) (m₀ := 39) (ann := an6) (M := 60000) ?_ size' topRan (by decide) ?_
  · refine open_cut (M := 1015) (He := fun P => absHeap (trO P) 39 {}) (ge := #[]) (de := {}) (ke := 317) (fun w => ?_) (by decide) (fun w => ?_)
    · have h1 : impGoT treeTable (opening PW) w 1014 SZ (tStart (opening PW)).2 = some (SO w, TO w) := by rw [eImpGo, eTab]; exact imp1 w
      have h2 : importEnds treeTable (opening PW) w 1 (SO w).abs (TO w) = some (SO w).abs := by rw [eImp, eTab]; exact imp2 w
      have h3 := imp_go (impGo_of h1) h2
      rw [eStart, imp0]
      exact h3
    · rw [eFence]
      exact fence' w
  · intro w
    funext os
    refine Prod.ext (congrFun (look1 w) os) (Prod.ext ?_ (congrFun (look3 w) os))
    show openSeen qV looseV modsV XtV false (FF w os) = openGood qV looseV
    rw [eSeen]
    exact congrFun (look2 w) os
end Mine

end
end
local macro_rules | `(tactic| walk_at "zz") => `(tactic| fail)
section
open PySem PySem.W PyProof.Rows PySem.Calls
open Sem (wp)
namespace Mine
theorem thread_P {prog : Program} {w : World} {t : Sem Fin} {s : Shared} {R : Result → Shared → Prop} (hz : s.asleep) (hG : leftWithCleanup s.gens = false)
    (h : wpP (model prog w) callerA t (fun fin s' => ∃ f, fin = .done f ∧ R (.ok f) s' ∧ s'.gens = #[]) (fun e s' => R (.error e) s' ∧ s'.gens = #[]) { s with gens := #[] }) :
    ∃ n r s', schedN (denote table) prog w n (.single s ⟨t, .builtin "claim.caller" {}, default, []⟩) = .halted (outcomeOf r) { s' with gens := s.gens } ∧ s'.heap.life = s.heap.life ∧ R r s' := by
  have h1 := h ⟨.builtin "claim.caller" {}, none, none, [], none⟩ default caller_in (by decide +kernel) (fun x hx => nomatch hx)
  have h2 : wp (model prog w) ⟨.builtin "claim.caller" {}, none, none, [], none⟩ t (Sem.finPost (model prog w) ⟨.builtin "claim.caller" {}, none, none, [], none⟩ fun r s' => (R r s' ∧ s'.gens = #[]) ∧ leftWithCleanup s'.gens = false)
      (fun e _ s' => (R (.error e) s' ∧ s'.gens = #[]) ∧ leftWithCleanup s'.gens = false) default { s with gens := #[] } := by
    refine Sem.wp_mono _ _ t (fun fin p' s' k => ?_) (fun e p' s' k => ⟨k, by rw [k.2]; simp [leftWithCleanup]⟩) _ _ h1
    obtain ⟨f, rfl, k⟩ := k
    exact ⟨k, by rw [k.2]; simp [leftWithCleanup]⟩
  obtain ⟨n, r, s₁, hn, hR, hg⟩ := (wp_iff_halts (M := model prog w) (R := fun r s' => R r s' ∧ s'.gens = #[]) ..).mp h2
  obtain ⟨s₂, hr, hf, hc⟩ := runNI_real _ _ _ hn (outcomeOf_ends r)
  obtain rfl : s₂ = s₁ := Shared.eq_of_forget_eq hf hg
  exact ⟨n, r, s₂, sched_gens (s := { s with gens := #[] }) hG hr (outcomeOf_ends r) hg rfl hc hz, runN_life (s := { s with gens := #[] }) _ _ _ hr, hR⟩

abbrev WalkP (q : Program) (loose : List Str) (XP : (Str → Option Value) → Heap → Prop) (YP : World → Heap → Prop) (r : RowW) (d : DefRec) (kwd : List (Str × Expr)) : Prop :=
  ∀ (w : World) (s₀ s₁ : Shared) (mg mb : Str → Option Value), Ground q loose r.records XP w s₀ mg mb s₁.heap → YP w s₁.heap → ∀ (a : Addr) (o : Obj) (pm cd doc dV kV : Value), s₁.heap.get? a = some o →
    o.data = .func { docDef d.name d.params d.body d.scope pm cd doc with defaults := dV, kwdefaults := kV } → s₁.heap.CodeRec cd d.name → Dflts mg s₁.heap d.params kwd dV kV → mg d.name = some (.ref a) → s₁.gens = #[] →
    ∀ (args : List WData) (vals : List Value) (as : List Addr), r.claim.pre args = true → WData.layableAll args = true → ReadsAllW r.records (classAt s₀.heap) s₁.heap vals args as → WellAll w.params s₁.heap vals args → (∀ a ∈ as, (a == sysModules) = false) →
      wpP (model r.prog w) callerA (call (.ref a) vals) (fun v s' => GoodW r.claim (classAt s₀.heap) (ExcName.means s₀.heap) args s₁ (.ok (.ret v)) s')
        (fun e s' => GoodW r.claim (classAt s₀.heap) (ExcName.means s₀.heap) args s₁ (.error e) s') s₁

theorem holds_P {r : OpenRow} {q : Program} {loose : List Str} {Xt : Shared → Bool} {XP : (Str → Option Value) → Heap → Prop} {α : Type} {Yf : Shared → α} {Ya : World → α} {YP : World → Heap → Prop} {d : DefRec} {kwd : List (Str × Expr)} {N : Nat}
    (left : LeftO r.prog q loose Xt Yf Ya N false) (hY : ∀ w s, Yf s = Ya w → YP w s.heap) (hYk : ∀ w h h', YP w h → (∀ b o, h.get? b = some o → h'.get? b = some o) → YP w h')
    (hX : ∀ s, Xt s = true → XP (s.heap.nsMap mainGlobals) s.heap) (hXk : ∀ mg h h', XP mg h → (∀ b o, h.get? b = some o → h'.get? b = some o) → XP mg h')
    (hdef : defOf q r.name = some (d, kwd)) (hp : r.prog.theDef r.name = some (d.params, d.body, d.scope)) (hk : kwWritten? d.params.kwonlyargs d.params.kw_defaults = some kwd) (hRf : ∀ s, Xt s = true → RecFacts r.records s.heap) (hwr : (!r.writes || r.records.isEmpty) = true)
    (k1 : r.wellSaid = true) (ok : (chainsOk q && opensWell r.prog && (frees r.toRowW && r.within.isEmpty)) = true) (hb : r.prog.bare) (hw : r.toRowW.promised)
    (walk : WalkP q loose XP YP r.toRowW d kwd) : r.Holds := by
  obtain ⟨ok1, ok2⟩ := Bool.and_eq_true_iff.mp ok
  obtain ⟨hch, hopen⟩ := Bool.and_eq_true_iff.mp ok1
  obtain ⟨hfree, hwith⟩ := Bool.and_eq_true_iff.mp ok2
  obtain ⟨hsame, hu, ha, hap, hm⟩ := frees_parts hfree
  have hwi : r.toRowW.claim.within = [] := List.isEmpty_iff.mp hwith
  refine ⟨k1, hw, ⟨hb, hopen, by show r.makers.map _ = []; rw [hm]; rfl⟩, hw.witness, fun w => ⟨(left.behind hX hch w).1, fun s' hs' => ?_⟩⟩
  obtain ⟨s₀, hf, hg0, s, hT, hz, hgens, hg, GR, y⟩ := (left.behind (XP := fun mg h => XP mg h ∧ RecFacts r.records h) (fun s hs => ⟨hX s hs, hRf s hs⟩) hch w).2 s' hs'
  have RF := GR.X.2
  have G0 : Ground q loose [] XP w s (s.heap.nsMap mainGlobals) (s.heap.nsMap builtinsNs) s.heap := ⟨GR.T, GR.B, GR.D, GR.TE, GR.TD, GR.W, GR.X.1, GR.cls, GR.has, GR.apart, GR.once, GR.K⟩
  refine ⟨s₀, hf, hg0, s, hT, fun n hn => ?_, RF.1, RF.2.1, fun args hpre hlay ord hord => ?_⟩
  · obtain rfl : n = r.name := by split at hn <;> simp_all
    exact pinned_of_view hg G0 hdef hp hk
  have G : Ground q loose r.records XP w s _ _ s.heap := RF.ground G0
  obtain ⟨⟨vs, s₁⟩, hlaid⟩ := Option.isSome_iff_exists.mp (layAllW_isSome (P := w.params) (ord := ord) G.has args r.args s (pre_splitW hpre).1)
  have keeps := layAllW_keeps _ _ _ hlaid
  have hal := layAllW_rest _ _ _ hlaid
  obtain ⟨as, hrd, hin, hold⟩ := reads_layAllW hord _ _ _ hlaid hlay s₁.heap (fun _ _ e => e)
  have G₁ := G.keeps hXk keeps
  obtain ⟨a, o, pm, cd, doc, dV, kV, h1, h2, h3, h4, h5⟩ := G₁.fn hdef
  have hi := ident_freeW hu ha hap
  have go := walk w s { s₁ with gens := #[] } _ _ G₁ (hYk _ _ _ (hY w s y) keeps) a o pm cd doc dV kV h2 h3 h4 h5 (defOf_name hdef ▸ h1) rfl args vs as hpre hlay hrd
    (well_layAllW hord args s _ hlaid _ fun _ _ e => e) (fun a ha => beq_eq_false_iff_ne.mpr fun e => by have := (hin.2.2 a ha).1; subst e; exact absurd G.low (Nat.not_lt.mpr this))
  have fin : ∀ {r' : Result} {s' : Shared}, GoodW r.toRowW.claim (classAt s.heap) (ExcName.means s.heap) args { s₁ with gens := #[] } r' s' →
      (r.toRowW.claim.Ends s args vs s₁ r' s' ∧ s'.os = s.os ∧ (r.writes = true → namesKept r.prog r.keeps s.heap s'.heap ∧ ∀ x ∈ r.records, ∀ a, classAt s.heap x.1 = some a → recordClass s'.heap a x.1 (x.2.map (·.1)) = true)) ∧ s'.gens = #[] := fun g =>
    have z := g.endsN (c := r.toRowW.claim) hsame hwi hi hrd hold hal.2.2.1
    ⟨⟨z.1, z.2.1, fun q => ⟨namesKept_of hT hg r.keeps keeps fun b o e => .inl (g.2.1 b o e), noTable hwr q⟩⟩, z.2.2⟩
  obtain ⟨n, r', s', hs, hl, he, hos, hkp⟩ := thread_P (prog := r.prog) (w := w) (s := s₁) (t := do
      match ← nsGet mainNs r.name with
      | some f => do ret (← PySem.call f vs)
      | none => unsupported "claim.caller:no-such-global")
    (R := fun r' s' => r.toRowW.claim.Ends s args vs s₁ r' s' ∧ s'.os = s.os ∧ (r.writes = true → namesKept r.prog r.keeps s.heap s'.heap ∧ ∀ x ∈ r.records, ∀ a, classAt s.heap x.1 = some a → recordClass s'.heap a x.1 (x.2.map (·.1)) = true))
    (Shared.asleep_of_life hal.2.2.2 hz) (by rw [show s₁.gens = s.gens from hal.1]; simpa using hgens)
    (P_bindL (wpAny_nsGet G₁.T.g (by
      rw [h1]
      exact P_bind (P_mono go (fun v s' g => P_pure ⟨_, rfl, fin g⟩) fun e s' g => fin g))))
  refine ⟨vs, s₁, hlaid, n, _, _, hs, ?_, (fun _ i x hx => by rw [← hx]; exact congrArg (·[i]?) hal.1), hkp, congrArg Life.seen (hl.trans hal.2.2.2), Shared.rest_eq hos⟩
  rcases he with ⟨v, rfl, d1, d2, d3, d4, d5⟩ | ⟨e, ob, cls, rfl, d1, d2, d3, d4, d5⟩
  · exact .inl ⟨v, rfl, d1, d2, d3, fun b o y _ => d4 b o y, d5⟩
  · exact .inr ⟨e, ob, cls, rfl, d1, d2, d3, d4, fun b o y _ => d5 b o y⟩
end Mine

end
local macro_rules | `(tactic| walk_at "zz") => `(tactic| fail)
section
open PySem PySem.W PyProof.Rows
namespace Mine
def lawSc : Scope := match topS 56 with | .FunctionDef _ _ _ _ _ _ sc _ _ _ => sc | _ => default
def lawBody : List Stmt := match topS 56 with | .FunctionDef _ _ b _ _ _ _ _ _ _ => b | _ => default
abbrev lawA (L fa : Addr) (cd : Value) : Around := callerA.deeper (envOf (sn "law") lawSc L fa cd)
abbrev lawE (L fa : Addr) (cd : Value) : Env := envOf (sn "law") lawSc L fa cd
end Mine

end
local macro_rules | `(tactic| walk_at "zz") => `(tactic| fail)
section
open PySem PySem.W PyProof.Rows
namespace Mine
def lawNum (n : Int) : Int :=
  if n.fmod 2 = 0 then ((n.fdiv 2).fdiv 8).fmod (256 ^ (([1, 1, 2, 2, 3, 4, 6, 8] : List Int).getD ((n.fdiv 2).fmod 8).toNat 0).toNat)
  else -((((n.fdiv 2).fdiv 8).fmod (256 ^ (([1, 1, 2, 2, 3, 4, 6, 8] : List Int).getD ((n.fdiv 2).fmod 8).toNat 0).toNat)).fmod (256 ^ Int.toNat 7)) - 1
theorem wid0 (k : Nat) : 0 ≤ ([1, 1, 2, 2, 3, 4, 6, 8] : List Int).getD k 0 ∧ ([1, 1, 2, 2, 3, 4, 6, 8] : List Int).getD k 0 ≤ 8 := by
  match k with
  | 0 => decide
  | 1 => decide
  | 2 => decide
  | 3 => decide
  | 4 => decide
  | 5 => decide
  | 6 => decide
  | 7 => decide
  | k + 8 => simp
local macro_rules | `(tactic| k_room) => `(tactic| (simp only [depth_under_make, depth_under_kw, depth_in1, depth_deeper, depth_caller, aup_depth]; decide))
local macro_rules | `(tactic| walk_at "binaryOp Pow int int") => `(tactic| (k_here; (with_reducible show wpAny _ _ (binaryOp _ (Value.int 256 _) (Value.int (List.getD _ _ _) _)) _ _ _); k_dflt (refine pow_int_small (wid0 _).1 (Int.le_trans (wid0 _).2 (by decide)) (by decide) ?_)))
set_option maxHeartbeats 4000000 in
theorem lawnum_k : ∀ (w : World) (p : Program) (loose : List Str) (mean : ExcName → Option Value) (mg mb : Str → Option Value) (A₀ : Around) (base h₀ : Heap) (L a : Addr) (m : Str → Option Value) (cn : Str) (cs : Scope) (ccd : Value) (outer : List Env) (news : List (Addr × Obj)) (s : Shared) (Q : Value → Shared → Prop) (E : Value → Shared → Prop) (n : Int) (tn : Tok),
    Below A₀ base outer h₀ → Fr h₀ L s.heap m → (KF w.params).In h₀ → News h₀ L s.heap news → Top p loose mean mg mb h₀ → (∀ x t' h' tk, x = lawNum n → Fr h₀ L h' m → News h₀ L h' news → Q (.int x t') { s with heap := h', toks := tk }) →
    wpAny (model PySem.Challenge.rw_vn0026_01.prog w) (Aup (envOf cn (mkSc cs) L a ccd :: outer)) (call (.ref 1256) [.int n tn]) Q E s := by
  k_fill
  w_on
  intro w p loose mean mg mb A₀ base h₀ L a m cn cs ccd outer news s Q E n tn B F X N T hT
  obtain ⟨hh, g, d, t, os⟩ := s
  iterate 36 (walk1; (try dsimp only))
  k_steps
  all_goals rename Fr h₀ L _ m => F9
  all_goals rename News h₀ L _ _ => N9
  · rename n.fmod 2 = 0 => hq
    exact hT _ _ _ _ (by unfold lawNum; rw [if_pos hq]) F9 fun q hq => N9 q (List.mem_cons_of_mem _ hq)
  · rename n.fmod 2 ≠ 0 => hq
    exact hT _ _ _ _ (by unfold lawNum; rw [if_neg hq]) F9 fun q hq => N9 q (List.mem_cons_of_mem _ hq)
theorem lawnum_K {w : World} {p : Program} {loose : List Str} {mean : ExcName → Option Value} {mg mb : Str → Option Value} {A₀ : Around} {base h₀ : Heap} {L a : Addr} {m : Str → Option Value} {cn : Str} {cs : Scope} {ccd : Value} {outer : List Env} {news : List (Addr × Obj)} {s : Shared} {Q : Value → Shared → Prop} {E : Value → Shared → Prop} {n : Int} {tn : Tok} {A : Around}
    (B : Below A₀ base outer h₀) (F : Fr h₀ L s.heap m) (X : (KF w.params).In h₀) (N : News h₀ L s.heap news) (T : Top p loose mean mg mb h₀) (hA : A.frames = some (envOf cn cs L a ccd :: outer)) (hk : cs.kind = .function)
    (hg : A.guards = some []) (hh : A.handled = none) (hd : A.depth ≤ 401) (hu : A.units ≤ 500)
    (h : ∀ t' h' tk, Fr h₀ L h' m → News h₀ L h' news → Q (.int (lawNum n) t') { s with heap := h', toks := tk }) : wpAny (model PySem.Challenge.rw_vn0026_01.prog w) A (call (.ref 1256) [.int n tn]) Q E s := by
  refine wpAny_up (l := envOf cn cs L a ccd :: outer) ?_ hA hg hh hd hu
  have z := lawnum_k w p loose mean mg mb A₀ base h₀ L a m cn cs ccd outer news s Q E n tn B F X N T (fun x t' h' tk e => e ▸ h t' h' tk)
  rw [mkSc_eq hk] at z
  exact z
theorem lawNum_range (n : Int) : -72057594037927936 ≤ lawNum n ∧ lawNum n ≤ 18446744073709551615 := by
  unfold lawNum
  have hw := wid0 ((n.fdiv 2).fmod 8).toNat
  generalize (([1, 1, 2, 2, 3, 4, 6, 8] : List Int).getD ((n.fdiv 2).fmod 8).toNat 0) = k at hw ⊢
  generalize (n.fdiv 2).fdiv 8 = x
  have h1 : (256 : Int) ^ k.toNat ≤ 256 ^ 8 := by
    have : (256 : Nat) ^ k.toNat ≤ 256 ^ 8 := Nat.pow_le_pow_right (by decide) (by omega)
    exact_mod_cast this
  have h0 : (0 : Int) < 256 ^ k.toNat := Int.pow_pos (by decide)
  have a1 : 0 ≤ x.fmod (256 ^ k.toNat) := Int.fmod_nonneg_of_pos _ h0
  have a2 : x.fmod (256 ^ k.toNat) < 256 ^ k.toNat := Int.fmod_lt_of_pos _ h0
  have b1 := Int.fmod_nonneg_of_pos (x.fmod (256 ^ k.toNat)) (b := 256 ^ Int.toNat 7) (by decide)
  have b2 := Int.fmod_lt_of_pos (x.fmod (256 ^ k.toNat)) (b := 256 ^ Int.toNat 7) (by decide)
  have e7 : (256 : Int) ^ Int.toNat 7 = 72057594037927936 := by decide
  have e8 : (256 : Int) ^ 8 = 18446744073709551616 := by decide
  rw [e7] at b1 b2 ⊢
  rw [e8] at h1
  split <;> omega
end Mine

end
local macro_rules | `(tactic| walk_at "zz") => `(tactic| fail)
local macro_rules | `(tactic| walk_at "zz") => `(tactic| fail)
section
open PySem PySem.W PyProof.Rows
namespace Mine
def ddup (xs : List Int) : List Int := xs.foldl (fun acc x => if (acc.any (· == x)) = true then acc else acc ++ [x]) []
theorem ddup_take {xs : List Int} {i : Nat} {v : Int} (h : xs[i]? = some v) : ddup ((xs.take (i + 1)).map lawNum) =
    if ((ddup ((xs.take i).map lawNum)).any (· == lawNum v)) = true then ddup ((xs.take i).map lawNum) else ddup ((xs.take i).map lawNum) ++ [lawNum v] := by
  have e : xs.take (i + 1) = xs.take i ++ [v] := by
    rw [List.take_succ, h]; rfl
  unfold ddup
  rw [e, List.map_append, List.foldl_append]
  rfl
theorem ddup_go (xs : List Int) : ∀ acc : List Int, (xs.foldl (fun acc x => if (acc.any (· == x)) = true then acc else acc ++ [x]) acc).length ≤ acc.length + xs.length := by
  induction xs with
  | nil => intro acc; exact Nat.le_refl _
  | cons x r ih =>
    intro acc
    refine Nat.le_trans (ih _) ?_
    show (if (acc.any fun y => y == x) = true then acc else acc ++ [x]).length + r.length ≤ _
    split
    · simp only [List.length_cons]; omega
    · simp only [List.length_append, List.length_cons, List.length_nil]; omega
theorem ddup_len (xs : List Int) : (ddup xs).length ≤ xs.length := Nat.le_trans (ddup_go xs []) (Nat.le_of_eq (Nat.zero_add _))
def forBody : List Stmt := match lawBody.getD 1 (.Pass ⟨0, 0, 0, 0⟩) with | .For _ _ b _ _ => b | _ => default
theorem ints_at {vs : List Value} {ns : List Int} (h : IntsAre vs ns) {i : Nat} {v : Value} (e : vs[i]? = some v) : ∃ n t, v = .int n t ∧ ns[i]? = some n := by
  induction h generalizing i with
  | nil => cases e
  | cons a t h ih =>
    cases i with
    | zero => cases e; exact ⟨a, t, rfl, rfl⟩
    | succ i => exact ih e
theorem notin_ledger {w : World} {prog : Program} {A : Around} {E : Value → Shared → Prop} {s : Shared} {h₀ : Heap} {L l : Addr} {news : List (Addr × Obj)} {vs : List Value} {ns : List Int} {c : Nat} {k : Int} {t : Tok} {Q : Value → Shared → Prop}
    (N : News h₀ L s.heap news) (hm : (l, listOf vs.toArray c) ∈ news) (hi : IntsAre vs ns) (h : Q (.bool (!(ns.any (· == k)))) s) : wpAny (model prog w) A (compareOp .NotIn (.int k t) (.ref l)) Q E s :=
  notin_list_ints ⟨_, (N _ hm).1, rfl, c, rfl⟩ hi h
theorem append_hd {w : World} {prog : Program} {A : Around} {E : Value → Shared → Prop} {s : Shared} {h₀ : Heap} {L l : Addr} {m : Str → Option Value} {own : List (Addr × Obj)} {ws : List Value} {c : Nat} {x : Value} {Q : Value → Shared → Prop}
    (F : Fr h₀ L s.heap m) (N : News h₀ L s.heap ((l, listOf ws.toArray c) :: own)) (hz : ws.toArray.size ≤ sizeLine) (hn : ∀ q ∈ own, q.1 ≠ l)
    (h : ∀ h', Fr h₀ L h' m → News h₀ L h' ((l, listOf (ws ++ [x]).toArray (c + 1)) :: own) → Q .none { s with heap := h' }) : wpAny (model prog w) A (call (.builtin "list.append") [.ref l, x]) Q E s := by
  have z := N _ (.head _)
  refine append_at (hsz := hz) z.1 fun h' hs ho => h h' (F.change hs z.2.1 z.2.2) fun q hq => ?_
  rcases List.mem_cons.mp hq with rfl | hq
  · refine ⟨ho.trans ?_, z.2⟩
    rw [← List.push_toArray]
  · have y := N q (.tail _ hq)
    exact ⟨hs.extBut _ _ (hn q hq) y.1, y.2⟩
theorem num_collapse (v num : Option Value) (f : Str → Option Value) : (fun y => if y = sn "number" then v else (fun y => if y = sn "number" then num else f y) y) = (fun y => if y = sn "number" then v else f y) := by
  funext y
  by_cases e : y = sn "number"
  · rw [if_pos e, if_pos e]
  · rw [if_neg e, if_neg e]; exact if_neg e
theorem ints_snoc {vs : List Value} {ns : List Int} (h : IntsAre vs ns) (n : Int) (t : Tok) : IntsAre (vs ++ [.int n t]) (ns ++ [n]) := by
  induction h with
  | nil => exact .cons _ _ .nil
  | cons a t h ih => exact .cons _ _ ih
local macro_rules | `(tactic| k_room) => `(tactic| (simp only [depth_under_make, depth_under_kw, depth_in1, depth_deeper, depth_caller, aup_depth]; decide))
local macro_rules | `(tactic| walk_at "call ref") => `(tactic| (k_here; (with_reducible show wpAny _ _ (call (Value.ref 1256) [Value.int _ _]) _ _ _); k_dflt (refine' lawnum_K ?k1 ?k2 ?k3 ?k4 ?k5 ?k6 ?k7 ?k8 ?k9 ?k10 ?k11 ?_; (case k1 => k_asm); (case k2 => k_asm); (case k3 => k_asm); (case k4 => k_asm); (case k5 => k_asm); (case k6 => exact rfl); (case k7 => exact rfl); (case k8 => exact rfl); (case k9 => exact rfl); (case k10 => exact Nat.le_of_ble_eq_true rfl); (case k11 => exact Nat.le_of_ble_eq_true rfl); k_whole; intro t' h' tk' F' N')))
local macro_rules | `(tactic| walk_at "compareOp NotIn") => `(tactic| (k_here; (with_reducible show wpAny _ _ (compareOp CmpOp.NotIn (Value.int _ _) (Value.ref _)) _ _ _); k_dflt (refine' notin_ledger ?k1 ?k2 ?k3 ?_; (case k1 => k_asm); (case k2 => k_mem); (case k3 => assumption); k_whole)))
local macro_rules | `(tactic| walk_at "call builtin:list.append") => `(tactic| (k_here; k_dflt (refine' append_hd ?k1 ?k2 ?k3 ?k4 ?_; (case k1 => k_asm); (case k2 => k_asm); (case k3 => assumption); (case k4 => assumption); k_whole); intro h' F' N'))
set_option maxHeartbeats 4000000 in
theorem law_loop : ∀ (w : World) (p : Program) (loose : List Str) (mean : ExcName → Option Value) (mg mb : Str → Option Value) (fa : Addr) (cd : Value) (base h₀ : Heap) (L : Addr) (s : Shared) (R : Result → Shared → Prop) (E : Value → Shared → Prop) (l lv D : Addr) (vs : List Value) (ns : List Int) (px : Pos),
    Below callerA base [] h₀ → Fr h₀ L s.heap (fun y => if y = sn "values" then some (Value.ref lv) else List.lookup y [(sn "script", Value.ref l)]) → (KF w.params).In h₀ → News h₀ L s.heap [(D, listOf vs.toArray 0), (lv, listOf #[] 0)] → Top p loose mean mg mb h₀ → IntsAre vs ns → ns.length ≤ 8 → lv ≠ D →
    (∀ h' tk num vs c, Fr h₀ L h' (fun y => if y = sn "number" then num else if y = sn "values" then some (Value.ref lv) else List.lookup y [(sn "script", Value.ref l)]) → News h₀ L h' [(lv, listOf vs.toArray c)] → IntsAre vs (ddup (ns.map lawNum)) → R (.ok .next) { s with heap := h', toks := tk }) →
    wpAny (model PySem.Challenge.rw_vn0026_01.prog w) (lawA L fa cd) (pyIter (.ref D)) (fun it s₂ => codeAny (model PySem.Challenge.rw_vn0026_01.prog w) (lawA L fa cd) (.forLoop (.Name (sn "number") px) it forBody [] (lawE L fa cd)) R s₂) E s := by
  k_fill
  w_on
  intro w p loose mean mg mb fa cd base h₀ L s R E l lv D vs ns px B F X N T hI h8 hne hR
  unfold lawA lawE
  generalize hS : lawSc = sc
  conv at hS => lhs; whnf
  subst hS
  generalize hb : forBody = bd
  conv at hb => lhs; whnf
  subst hb
  have hl : s.heap.IsList D vs.toArray := ⟨_, (N _ (.head _)).1, rfl, _, rfl⟩
  have hlt : D < s.heap.objs.size := Heap.lt_size (N _ (.head _)).1
  have hlv : lv < s.heap.objs.size := Heap.lt_size (N _ (.tail _ (.head _))).1
  refine wpAny_pyIter_list hl ?_
  have up : ∀ b o, s.heap.get? b = some o → (s.heap.push { cls := .type "list_iterator", data := .fields #[.ref D, .int 0 0] }).get? b = some o := fun b o e => Heap.get?_push_of_some _ e
  refine codeAny_forLoop_frV (Walks.list rfl s.heap.objs.size D (Nat.ne_of_lt hlt) vs.toArray) rfl rfl ?_ ?_ ?_ (news := [(lv, listOf #[] 0)]) ⟨⟨_, Heap.get?_push_size _ rfl, rfl, rfl⟩, hl.push _⟩ (F.keeps up) (fun q hq => (N.grown up) q (.tail _ hq))
    (fun i m₁ news₁ => ∃ num ws c, m₁ = (fun y => if y = sn "number" then num else if y = sn "values" then some (Value.ref lv) else List.lookup y [(sn "script", Value.ref l)]) ∧ news₁ = [(lv, listOf ws.toArray c)] ∧ IntsAre ws (ddup ((ns.take i).map lawNum)))
    ⟨none, [], 0, ?_, rfl, .nil⟩ ?_ ?_
  · intro hm
    rcases List.mem_cons.mp hm with e | hm
    · exact Nat.ne_of_lt F.ns.lt e
    · exact (N _ (.head _)).2.1 (List.mem_singleton.mp hm).symm
  · intro b hb
    rw [List.mem_singleton.mp hb]
    exact next_is_new F
  · intro q hq
    rw [List.mem_singleton.mp hq]
    exact fun e => Nat.ne_of_lt hlv (List.mem_singleton.mp e)
  · funext y
    by_cases e : y = sn "number"
    · subst e; rfl
    · rw [if_neg e]
  · rintro i v m₁ news₁ s₁ own ⟨h₁, tk₁, rfl⟩ hi hv ⟨num, ws, c, rfl, rfl, hw⟩ hwr hown hownat hownin hst F₁ N₁
    obtain ⟨n, t, rfl, hn⟩ := ints_at hI (by simpa using hv)
    have hnow : ∀ q ∈ own, q.1 ≠ lv := fun q hq => by
      rcases List.mem_cons.mp (hown q hq) with e | e
      · rw [e]; exact Nat.ne_of_gt hlv
      · rw [List.mem_singleton.mp e]; exact Ne.symm hne
    have N₂ : News h₀ L h₁ ((lv, listOf ws.toArray c) :: own) := fun q hq => N₁ q (by rcases List.mem_cons.mp hq with rfl | hq; exact List.mem_append_right _ (.head _); exact List.mem_append_left _ hq)
    have hz : ws.toArray.size ≤ sizeLine := by
      rw [List.size_toArray, hw.length, sizeLine_eq]
      have := ddup_len ((ns.take i).map lawNum)
      rw [List.length_map, List.length_take] at this
      omega
    clear N₁ hown hownin hst hownat N
    dsimp only at F₁ hwr
    k_steps
    · rename (_ : Bool) = true => ha
      rename Fr h₀ L _ _ => F9
      rename News h₀ L _ _ => N9
      refine LoopStepU.intro (news₂ := [(lv, listOf ws.toArray c)]) F9 (fun q hq => N9 q ?_) hwr ⟨some (.int n t), ws, c, ?_, rfl, ?_⟩
      · rcases List.mem_append.mp hq with hq | hq
        · exact .tail _ hq
        · rw [List.mem_singleton.mp hq]; exact .head _
      · exact num_collapse _ _ _
      · rw [ddup_take hn, if_pos ha]; exact hw
    · rename (_ : Bool) = false => ha
      rename Fr h₀ L _ _ => F9
      rename News h₀ L _ _ => N9
      obtain ⟨t9, N10⟩ : ∃ t9, News h₀ L _ ((lv, listOf (ws ++ [Value.int (lawNum n) t9]).toArray (c + 1)) :: own) := ⟨_, N9⟩
      refine LoopStepU.intro (news₂ := [(lv, listOf (ws ++ [Value.int (lawNum n) t9]).toArray (c + 1))]) F9 (fun q hq => N10 q ?_) ?_ ⟨some (Value.int n t), _, _, ?_, rfl, ?_⟩
      · rcases List.mem_append.mp hq with hq | hq
        · exact .tail _ hq
        · rw [List.mem_singleton.mp hq]; with_unfolding_all exact .head _
      · intro q hq
        rw [List.mem_singleton.mp hq]
        exact hwr (lv, listOf ws.toArray c) (.head _)
      · exact num_collapse _ _ _
      · rw [ddup_take hn, if_neg (by rw [ha]; exact Bool.false_ne_true)]
        exact ints_snoc hw _ _
  · rintro h' tk m' news' F' N' hn' ⟨num, ws, c, rfl, rfl, hw⟩
    refine hR h' tk num ws c F' N' ?_
    have e : List.take vs.toArray.size ns = ns := List.take_of_length_le (by rw [List.size_toArray, hI.length]; exact Nat.le_refl _)
    rw [e] at hw
    exact hw
end Mine

end
local macro_rules | `(tactic| walk_at "zz") => `(tactic| fail)
local macro_rules | `(tactic| walk_at "zz") => `(tactic| fail)
local macro_rules | `(tactic| walk_at "zz") => `(tactic| fail)
local macro_rules | `(tactic| walk_at "zz") => `(tactic| fail)
section
open PySem PySem.W PyProof.Rows PySem.Calls PyProof.Rows.LCg
namespace Mine
local macro_rules | `(tactic| k_room) => `(tactic| (simp only [depth_under_make, depth_under_kw, depth_in1, depth_deeper, depth_caller, aup_depth, alow_depth, amid_depth]; decide))
set_option maxHeartbeats 8000000 in
theorem s1 : ∀ (w : World) (p : Program) (loose : List Str) (mean : ExcName → Option Value) (mg mb : Str → Option Value) (fa : Addr) (cd : Value) (base h₀ : Heap) (L : Addr) (s : Shared) (Q : Flow → Shared → Prop) (E : Value → Shared → Prop) (l : Addr),
    Below callerA base [] h₀ → Fr h₀ L s.heap (fun y => List.lookup y [(sn "script", Value.ref l)]) → (KF w.params).In h₀ → Top p loose mean mg mb h₀ →
    (∀ lv h' tk, Fr h₀ L h' (fun y => if y = sn "values" then some (Value.ref lv) else List.lookup y [(sn "script", Value.ref l)]) → News h₀ L h' [(lv, listOf #[] 0)] → Q .next { s with heap := h', toks := tk }) →
    wpAny (model PySem.Challenge.rw_vn0026_01.prog w) (lawA L fa cd) (exec (lawBody.getD 0 (.Pass ⟨0, 0, 0, 0⟩)) (lawE L fa cd)) Q E s := by
  k_fill
  w_on
  intro w p loose mean mg mb fa cd base h₀ L s Q E l B F X T hQ
  have N : News h₀ L s.heap [] := fun q hq => nomatch hq
  unfold lawA lawE at *
  generalize hS : lawSc = sc at *
  conv at hS => lhs; whnf
  subst hS
  generalize hb : lawBody.getD 0 (.Pass ⟨0, 0, 0, 0⟩) = bd
  conv at hb => lhs; whnf
  subst hb
  obtain ⟨hh, g, d, t0, os⟩ := s
  k_steps
  rename Fr h₀ L _ _ => F9
  rename News h₀ L _ _ => N9
  exact hQ _ _ _ F9 N9
theorem news_13 {h₀ h : Heap} {L : Addr} {x y z : Addr × Obj} {r : List (Addr × Obj)} (N : News h₀ L h (x :: y :: z :: r)) : News h₀ L h [x, z] := fun q hq => by
  rcases List.mem_cons.mp hq with rfl | hq
  · exact N _ (.head _)
  · rw [List.mem_singleton.mp hq]; exact N _ (.tail _ (.tail _ (.head _)))
theorem for_any {M : Model} {A : Around} {E : Value → Shared → Prop} {s : Shared} {env : Env} {t : Expr} {iter : Expr} {body : List Stmt} {pos} {Q : Flow → Shared → Prop}
    (h : wpAny M A (eval iter env) (fun x s₁ => wpAny M A (pyIter x) (fun it s₂ =>
      codeAny M A (.forLoop t it body [] env) (fun r s' => match r with | .ok f => Q f s' | .error e => cameBackBy M A env E e s') s₂) E s₁) E s) (hs : ∀ x, foldedSetIterable iter env x = pure x := by intro _; rfl) : wpAny M A (exec (.For t iter body [] pos) env) Q E s := wpAny_For h hs
set_option maxHeartbeats 8000000 in
theorem s2 : ∀ (w : World) (p : Program) (loose : List Str) (mean : ExcName → Option Value) (mg mb : Str → Option Value) (fa : Addr) (cd : Value) (base h₀ : Heap) (L : Addr) (s : Shared) (Q : Flow → Shared → Prop) (E : Value → Shared → Prop) (l lv : Addr) (vs : List Value) (ns : List Int),
    Below callerA base [] h₀ → Fr h₀ L s.heap (fun y => if y = sn "values" then some (Value.ref lv) else List.lookup y [(sn "script", Value.ref l)]) → (KF w.params).In h₀ → News h₀ L s.heap [(lv, listOf #[] 0)] → Top p loose mean mg mb h₀ → h₀.IsList l vs.toArray → IntsAre vs ns → ns.length ≤ 63 →
    (∀ (h' : Heap) (tk : Nat) (num : Option Value) (vs : List Value) (c : Nat) (ms : List Int), Fr h₀ L h' (fun y => if y = sn "number" then num else if y = sn "values" then some (Value.ref lv) else List.lookup y [(sn "script", Value.ref l)]) → News h₀ L h' [(lv, listOf vs.toArray c)] → ms.length ≤ 8 → IntsAre vs (ddup (ms.map lawNum)) → Q .next { s with heap := h', toks := tk }) →
    wpAny (model PySem.Challenge.rw_vn0026_01.prog w) (lawA L fa cd) (exec (lawBody.getD 1 (.Pass ⟨0, 0, 0, 0⟩)) (lawE L fa cd)) Q E s := by
  k_fill
  w_on
  intro w p loose mean mg mb fa cd base h₀ L s Q E l lv vs ns B F X N T hL hI h63 hQ
  have hloop := law_loop w p loose mean mg mb fa cd base h₀ L
  generalize hf : forBody = fb at hloop
  conv at hf => lhs; whnf
  subst hf
  unfold lawA lawE at *
  generalize hS : lawSc = sc at *
  conv at hS => lhs; whnf
  subst hS
  generalize hb : lawBody.getD 1 (.Pass ⟨0, 0, 0, 0⟩) = bd
  conv at hb => lhs; whnf
  subst hb
  obtain ⟨hh, g, d, t0, os⟩ := s
  refine for_any ?_ ?_
  rotate_left
  · intro x; with_unfolding_all rfl
  k_steps
  all_goals (try dsimp only)
  · rename Fr h₀ L _ _ => F9
    rename News h₀ L _ _ => N9
    refine hloop _ _ E l lv _ _ _ _ B F9 X N9 T (by assumption) (by rw [List.length_take]; omega) (Nat.ne_of_lt (by assumption)) fun h' tk num vs' c F' N' hI' => ?_
    exact hQ h' tk num vs' c _ F' N' (by rw [List.length_take]; omega) hI'
  · rename Fr h₀ L _ _ => F9
    rename News h₀ L _ _ => N9
    refine hloop _ _ E l lv _ _ _ _ B F9 X (news_13 N9) T (.cons 1 _ (.cons 2 _ (.cons 0 _ (.cons 90 _ .nil)))) (by decide) (by k_ne) fun h' tk num vs' c F' N' hI' => ?_
    exact hQ h' tk num vs' c _ F' N' (by decide) hI'
end Mine

end
local macro_rules | `(tactic| walk_at "zz") => `(tactic| fail)
section
open PySem PySem.W PyProof.Rows
namespace Mine

/-- what a tree of asks hands back, when the asks are answered by lt and every index lies below n -/
noncomputable def Sat {α : Type} (lt : Nat → Nat → Bool) (n : Nat) : KasT α → (α → Prop) → Prop
  | .ret a, P => P a
  | .ask i j k, P => i < n ∧ j < n ∧ Sat lt n (k (lt i j)) P

theorem Sat.mono {α : Type} {lt : Nat → Nat → Bool} {n : Nat} {P P' : α → Prop} (hp : ∀ a, P a → P' a) : ∀ {t : KasT α}, Sat lt n t P → Sat lt n t P'
  | .ret a, h => hp a h
  | .ask i j k, h => ⟨h.1, h.2.1, Sat.mono (t := k (lt i j)) hp h.2.2⟩
theorem Sat.bind {α β : Type} {lt : Nat → Nat → Bool} {n : Nat} {f : α → KasT β} {P : β → Prop} : ∀ {t : KasT α}, Sat lt n t (fun a => Sat lt n (f a) P) → Sat lt n (t.bind f) P
  | .ret a, h => h
  | .ask i j k, h => ⟨h.1, h.2.1, Sat.bind (t := k (lt i j)) h.2.2⟩

/-- the asks in the machine -/
theorem Sat.wp {α : Type} {lt : Nat → Nat → Bool} {n : Nat} {cmp : Nat → Nat → (Bool → Shared → Prop) → Shared → Prop} {S : Shared → Prop} {P : α → Prop} {Q : α → Shared → Prop}
    (hc : ∀ i j C s, i < n → j < n → S s → (∀ s', S s' → C (lt i j) s') → cmp i j C s) (hq : ∀ a s, P a → S s → Q a s) :
    ∀ {t : KasT α} {s : Shared}, Sat lt n t P → S s → t.kasWp cmp Q s
  | .ret a, s, h, hs => hq a s h hs
  | .ask i j k, s, h, hs => hc i j _ s h.1 h.2.1 hs fun s' hs' => Sat.wp (t := k (lt i j)) hc hq h.2.2 hs'

section
variable {key : Nat → Int} {n : Nat}
abbrev ltk (key : Nat → Int) (i j : Nat) : Bool := decide (key i < key j)
abbrev KK' (key : Nat → Int) (p : Array Nat) (i : Nat) : Int := key (p.getD i 0)
def Asc (key : Nat → Int) (p : Array Nat) (k : Nat) : Prop := ∀ i j, i < j → j < k → KK' key p i < KK' key p j
def Dsc (key : Nat → Int) (p : Array Nat) (k : Nat) : Prop := ∀ i j, i < j → j < k → KK' key p j < KK' key p i
structure Pm (n : Nat) (p : Array Nat) : Prop where
  perm : p.toList.Perm (List.range n)
theorem Pm.size {p : Array Nat} (h : Pm n p) : p.size = n := by
  have := h.perm.length_eq
  simpa using this
theorem Pm.lt {p : Array Nat} (h : Pm n p) {i : Nat} (hi : i < n) : p.getD i 0 < n := by
  have hs := h.size
  have e : p.getD i 0 = p[i]'(by omega) := by simp [Array.getD, hs, hi]
  have hm : p.getD i 0 ∈ p.toList := by rw [e]; exact Array.getElem_mem_toList _
  exact List.mem_range.mp (h.perm.mem_iff.mp hm)
theorem Pm.inj {p : Array Nat} (h : Pm n p) {i j : Nat} (hi : i < n) (hj : j < n) (e : p.getD i 0 = p.getD j 0) : i = j := by
  have hs := h.size
  have hn : p.toList.Nodup := h.perm.nodup_iff.mpr List.nodup_range
  have ei : p.getD i 0 = p.toList[i]'(by simp; omega) := by simp [Array.getD, hs, hi]
  have ej : p.getD j 0 = p.toList[j]'(by simp; omega) := by simp [Array.getD, hs, hj]
  rw [ei, ej] at e
  exact (List.getElem_inj hn).mp e
theorem Pm.key_ne {p : Array Nat} (h : Pm n p) (hk : ∀ i j, i < n → j < n → key i = key j → i = j) {i j : Nat} (hi : i < n) (hj : j < n) (ne : i ≠ j) : KK' key p i ≠ KK' key p j :=
  fun e => ne (h.inj hi hj (hk _ _ (h.lt hi) (h.lt hj) e))
theorem getD_of {p q : Array Nat} {i j : Nat} (e : p[i]? = q[j]?) : p.getD i 0 = q.getD j 0 := by
  rw [Array.getD_eq_getD_getElem?, Array.getD_eq_getD_getElem?, e]
theorem Pm.rev {p : Array Nat} (h : Pm n p) (i j : Nat) : Pm n (kas_rev p i j) := ⟨(Array.perm_iff_toList_perm.mp (mirror_perm p i j _)).trans h.perm⟩
theorem Pm.bubble {p : Array Nat} (h : Pm n p) (i j : Nat) : Pm n (bubble p i j) := ⟨(Array.perm_iff_toList_perm.mp (bubble_perm p i j)).trans h.perm⟩


variable (hk : ∀ i j, i < n → j < n → key i = key j → i = j)
include hk
theorem sat_asc {p : Array Nat} (h : Pm n p) : ∀ (f m : Nat), 1 ≤ m → m + f ≤ n → Asc key p m →
    Sat (ltk key) n (kas_asc p f m) (fun m' => m ≤ m' ∧ m' ≤ m + f ∧ Asc key p m' ∧ (m' < m + f → KK' key p m' < KK' key p (m' - 1)))
  | 0, m, _, _, a => ⟨Nat.le_refl _, Nat.le_refl _, a, fun c => absurd c (Nat.lt_irrefl _)⟩
  | f + 1, m, h1, hf, a => by
    refine ⟨h.lt (by omega), h.lt (by omega), ?_⟩
    by_cases c : KK' key p m < KK' key p (m - 1)
    · have e : ltk key (p.getD m 0) (p.getD (m - 1) 0) = true := decide_eq_true c
      rw [e]; simp only [if_true]
      exact ⟨Nat.le_refl _, Nat.le_add_right _ _, a, fun _ => c⟩
    · have e : ltk key (p.getD m 0) (p.getD (m - 1) 0) = false := decide_eq_false c
      rw [e]; simp only [Bool.false_eq_true, if_false]
      have ne := h.key_ne hk (i := m) (j := m - 1) (by omega) (by omega) (by omega)
      refine Sat.mono (fun m' q => ⟨by omega, by omega, q.2.2.1, fun z => q.2.2.2 (by omega)⟩) (sat_asc h f (m + 1) (by omega) (by omega) ?_)
      intro i j hij hj
      by_cases hjm : j = m
      · subst hjm
        by_cases him : i = j - 1
        · subst him; omega
        · have := a i (j - 1) (by omega) (by omega)
          omega
      · exact a i j hij (by omega)

theorem sat_desc {p : Array Nat} (h : Pm n p) : ∀ (f m : Nat), 1 ≤ m → m + f ≤ n → Dsc key p m →
    Sat (ltk key) n (kas_desc f p m 0) (fun r => r.1 = p ∧ m ≤ r.2.1 ∧ r.2.1 ≤ m + f ∧ r.2.2 = 0 ∧ Dsc key p r.2.1)
  | 0, m, _, _, a => ⟨rfl, Nat.le_refl _, Nat.le_refl _, rfl, a⟩
  | f + 1, m, h1, hf, a => by
    refine ⟨h.lt (by omega), h.lt (by omega), ?_⟩
    have ne := h.key_ne hk (i := m) (j := m - 1) (by omega) (by omega) (by omega)
    by_cases c : KK' key p m < KK' key p (m - 1)
    · have e : ltk key (p.getD m 0) (p.getD (m - 1) 0) = true := decide_eq_true c
      rw [e]; simp only [if_true]; rw [if_neg (by omega)]
      refine Sat.mono (fun r q => ⟨q.1, by omega, by omega, q.2.2.2.1, q.2.2.2.2⟩) (sat_desc h f (m + 1) (by omega) (by omega) ?_)
      intro i j hij hj
      by_cases hjm : j = m
      · subst hjm
        by_cases him : i = j - 1
        · subst him; omega
        · have := a i (j - 1) (by omega) (by omega)
          omega
      · exact a i j hij (by omega)
    · have e : ltk key (p.getD m 0) (p.getD (m - 1) 0) = false := decide_eq_false c
      rw [e]; simp only [Bool.false_eq_true, if_false]
      refine ⟨h.lt (by omega), h.lt (by omega), ?_⟩
      have e2 : ltk key (p.getD (m - 1) 0) (p.getD m 0) = true := decide_eq_true (by
        show KK' key p (m - 1) < KK' key p m
        omega)
      rw [e2]; simp only [if_true]
      exact ⟨rfl, Nat.le_refl _, Nat.le_add_right _ _, rfl, a⟩

omit hk in
theorem rev_asc {p : Array Nat} (h : Pm n p) {m : Nat} (hm : m ≤ n) (a : Dsc key p m) : Asc key (kas_rev p 0 m) m := by
  intro i j hij hj
  have hs := h.size
  have e : ∀ k, k < m → KK' key (kas_rev p 0 m) k = KK' key p (m - 1 - k) := fun k hk' => by
    unfold KK'
    congr 1
    refine getD_of ?_
    have := getElem?_mirror_all (xs := p) (i := 0) (j := m) (by omega) k
    rw [if_pos ⟨Nat.zero_le _, hk'⟩] at this
    rw [Nat.zero_add] at this
    exact this
  rw [e i (by omega), e j hj]
  exact a _ _ (by omega) (by omega)

theorem sat_tail3 {p : Array Nat} (h : Pm n p) {m : Nat} (h1 : 1 ≤ m) (hm : m ≤ n) (a : Dsc key p m) :
    Sat (ltk key) n (kas_tail3 m n p) (fun r => Pm n r.2 ∧ 1 ≤ r.1 ∧ r.1 ≤ n ∧ Asc key r.2 r.1) := by
  refine Sat.bind (Sat.mono (fun m' q => ?_) (sat_asc hk (h.rev 0 m) (n - m) m h1 (by omega) (rev_asc h hm a)))
  exact ⟨h.rev 0 m, by omega, by omega, q.2.2.1⟩

theorem sat_count (h2 : 2 ≤ n) {p : Array Nat} (h : Pm n p) : Sat (ltk key) n (kas_count n p) (fun r => Pm n r.2 ∧ 1 ≤ r.1 ∧ r.1 ≤ n ∧ Asc key r.2 r.1) := by
  refine Sat.bind (Sat.mono (fun m q => ?_) (sat_asc hk h (n - 1) 1 (Nat.le_refl _) (by omega) (fun i j hij hj => by omega)))
  obtain ⟨q1, q2, q3, q4⟩ := q
  by_cases e1 : m = n
  · subst e1
    rw [if_pos (beq_self_eq_true _)]
    exact ⟨h, q1, Nat.le_refl _, q3⟩
  · rw [if_neg (by simpa using e1)]
    by_cases e2 : m > 1
    · rw [if_pos e2]
      refine ⟨h.lt (by omega), h.lt (by omega), ?_⟩
      have e : ltk key (p.getD 0 0) (p.getD (m - 1) 0) = true := decide_eq_true (q3 0 (m - 1) (by omega) (by omega))
      rw [e]; simp only [if_true]
      exact ⟨h, q1, by omega, q3⟩
    · rw [if_neg e2]
      have em : m = 1 := by omega
      subst em
      have q5 := q4 (by omega)
      unfold kas_descPart
      refine Sat.bind (Sat.mono (fun r d => ?_) (sat_desc hk h (n - (1 + 1)) (1 + 1) (by omega) (by omega) (fun i j hij hj => by
        obtain rfl : i = 0 := by omega
        obtain rfl : j = 1 := by omega
        exact q5)))
      obtain ⟨p', m', q'⟩ := r
      obtain ⟨rfl, d2, d3, rfl, d5⟩ := d
      dsimp only at d2 d3 d5 ⊢
      rw [if_neg (by omega)]
      exact sat_tail3 hk h (by omega) (by omega) d5

theorem sat_place {p : Array Nat} (h : Pm n p) {k : Nat} (hkn : k < n) (a : Asc key p k) : ∀ (f l r : Nat), l ≤ r → r ≤ k → r - l ≤ f → (∀ i, i < l → KK' key p i < KK' key p k) → (∀ i, r ≤ i → i < k → KK' key p k < KK' key p i) →
    Sat (ltk key) n (kas_place p k f l r) (fun l' => l' ≤ k ∧ (∀ i, i < l' → KK' key p i < KK' key p k) ∧ (∀ i, l' ≤ i → i < k → KK' key p k < KK' key p i))
  | 0, l, r, hlr, hr, hf, a1, a2 => ⟨by omega, a1, fun i hi hik => a2 i (by omega) hik⟩
  | f + 1, l, r, hlr, hr, hf, a1, a2 => by
    unfold kas_place
    by_cases c : l ≥ r
    · rw [if_pos c]
      exact ⟨by omega, a1, fun i hi hik => a2 i (by omega) hik⟩
    · rw [if_neg c]
      refine ⟨h.lt (by omega), h.lt (by omega), ?_⟩
      have ne := h.key_ne hk (i := k) (j := (l + r) / 2) (by omega) (by omega) (by omega)
      by_cases c2 : KK' key p k < KK' key p ((l + r) / 2)
      · have e : ltk key (p.getD k 0) (p.getD ((l + r) / 2) 0) = true := decide_eq_true c2
        rw [e]; simp only [if_true]
        refine sat_place h hkn a f l ((l + r) / 2) (by omega) (by omega) (by omega) a1 fun i hi hik => ?_
        by_cases he : i = (l + r) / 2
        · subst he; exact c2
        · have := a ((l + r) / 2) i (by omega) hik
          omega
      · have e : ltk key (p.getD k 0) (p.getD ((l + r) / 2) 0) = false := decide_eq_false c2
        rw [e]; simp only [Bool.false_eq_true, if_false]
        refine sat_place h hkn a f ((l + r) / 2 + 1) r (by omega) (by omega) (by omega) (fun i hi => ?_) a2
        by_cases he : i = (l + r) / 2
        · subst he; omega
        · have := a i ((l + r) / 2) (by omega) (by omega)
          omega

omit hk in
theorem bubble_asc {p : Array Nat} (h : Pm n p) {k l : Nat} (hkn : k < n) (hl : l ≤ k) (a : Asc key p k) (a1 : ∀ i, i < l → KK' key p i < KK' key p k) (a2 : ∀ i, l ≤ i → i < k → KK' key p k < KK' key p i) :
    Asc key (bubble p k (k - l)) (k + 1) := by
  have hs := h.size
  have e : ∀ j, KK' key (bubble p k (k - l)) j = if j = l then KK' key p k else if l < j ∧ j ≤ k then KK' key p (j - 1) else KK' key p j := fun j => by
    unfold KK'
    have z := getElem?_bubble (xs := p) (src := k) (by omega) (k - l) (by omega) j
    rw [show k - (k - l) = l by omega] at z
    split
    · rename_i c; rw [if_pos c] at z; rw [getD_of z]
    · rename_i c
      rw [if_neg c] at z
      split
      · rename_i c2; rw [if_pos c2] at z; rw [getD_of z]
      · rename_i c2; rw [if_neg c2] at z; rw [getD_of z]
  intro i j hij hj
  rw [e i, e j]
  by_cases c1 : i = l
  · rw [if_pos c1, if_neg (by omega), if_pos (by omega)]
    exact a2 _ (by omega) (by omega)
  · rw [if_neg c1]
    by_cases c2 : l < i ∧ i ≤ k
    · rw [if_pos c2, if_neg (by omega), if_pos (by omega)]
      exact a _ _ (by omega) (by omega)
    · rw [if_neg c2]
      by_cases c3 : j = l
      · rw [if_pos c3]
        exact a1 _ (by omega)
      · rw [if_neg c3]
        by_cases c4 : l < j ∧ j ≤ k
        · rw [if_pos c4]
          by_cases c5 : i = j - 1
          · omega
          · exact a _ _ (by omega) (by omega)
        · rw [if_neg c4]
          exact a _ _ hij (by omega)

theorem sat_bin : ∀ (f : Nat) {p : Array Nat} (k : Nat), Pm n p → 1 ≤ k → k + f = n → Asc key p k → Sat (ltk key) n (kas_bin f p k) (fun p' => Pm n p' ∧ Asc key p' n)
  | 0, p, k, h, _, hf, a => ⟨h, by rw [← hf]; exact a⟩
  | f + 1, p, k, h, h1, hf, a => by
    unfold kas_bin
    refine Sat.bind (Sat.mono (fun l q => ?_) (sat_place hk h (by omega) a k 0 k (Nat.zero_le _) (Nat.le_refl _) (by omega) (fun i hi => by omega) (fun i hi hik => by omega)))
    exact sat_bin f (k + 1) (h.bubble _ _) (by omega) (by omega) (bubble_asc h (by omega) q.1 a q.2.1 q.2.2)

theorem sat_sort (h2 : 2 ≤ n) : Sat (ltk key) n (kas_sort n) (fun p => Pm n p ∧ Asc key p n) := by
  unfold kas_sort
  refine Sat.bind (Sat.mono (fun r q => ?_) (sat_count hk h2 (p := List.toArray (List.range n)) ⟨List.Perm.refl _⟩))
  obtain ⟨q1, q2, q3, q4⟩ := q
  by_cases c : r.1 < n
  · rw [if_pos c]
    have e : max r.1 1 = r.1 := by omega
    rw [e]
    exact sat_bin hk (n - r.1) r.1 q1 q2 (by omega) q4
  · rw [if_neg c]
    have e : r.1 = n := by omega
    exact ⟨q1, by rw [← e]; exact q4⟩
end
end Mine

end
local macro_rules | `(tactic| walk_at "zz") => `(tactic| fail)
section
open PySem PySem.W PyProof.Rows
namespace Mine
section
variable {prog : Program} {w : World} {A : Around} {E : Value → Shared → Prop} {s : Shared} {h₀ : Heap} {L a : Addr} {m : Str → Option Value} {news : List (Addr × Obj)} {vs : List Value} {κ : SortKind} {key : Nat → Int}
theorem sort_short {n : Nat} {P : PySem.Fin → Shared → Prop} (F : Fr h₀ L s.heap m) (N : News h₀ L s.heap news) (ho : s.heap.get? a = some (seqObj "list" vs.toArray n)) (haL : a ≠ L) (ha0 : h₀.get? a = none) (hna : ∀ p ∈ news, p.1 ≠ a)
    (h2 : vs.length < 2)
    (h : ∀ c h', Fr h₀ L h' m → News h₀ L h' ((a, listOf vs.toArray c) :: news) → P (.done (.ret .none)) { s with heap := h' }) :
    wpAny (model prog w) A (Builtin.«list.sort» ⟨[.ref a], []⟩) P E s := by
  have ha : a < s.heap.objs.size := Heap.lt_size ho
  have s1 := Heap.SameBut.update s.heap a (Obj.mapSeq fun _ => (#[] : Array Value))
  obtain ⟨e1, ho1⟩ : ∃ e1, (s.heap.update a (Obj.mapSeq fun _ => (#[] : Array Value))).get? a = some (seqObj "list" #[] e1) := ⟨_, get?_update_seq ho fun _ => #[]⟩
  have F3 : Fr h₀ L (((s.heap.update a (Obj.mapSeq fun _ => (#[] : Array Value))).push (seqObj "tuple" vs.toArray 0)).push (seqObj "list" #[] 0)) m := ((kas_fr F s1 haL ha0).push _).push _
  have N2 : News h₀ L (((s.heap.update a (Obj.mapSeq fun _ => (#[] : Array Value))).push (seqObj "tuple" vs.toArray 0)).push (seqObj "list" #[] 0)) news :=
    (kas_news N s1 hna).grown fun b x e => Heap.get?_push_of_some _ (Heap.get?_push_of_some _ e)
  have na : (((s.heap.update a (Obj.mapSeq fun _ => (#[] : Array Value))).push (seqObj "tuple" vs.toArray 0)).push (seqObj "list" #[] 0)).get? a = some (seqObj "list" #[] e1) := Heap.get?_push_of_some _ (Heap.get?_push_of_some _ ho1)
  rw [list_sort_plain]
  refine wpAny_bind (listItems_at ho rfl ?_)
  refine wpAny_bind (listUpdate_at ho rfl ?_ (by rw [List.size_toArray, sizeLine_eq]; omega) (Nat.zero_le _))
  refine wpAny_bind (seqEpoch_at ho1 rfl ?_)
  refine wpAny_bind (wpAny_newTuple ?_ (by show vs.length ≤ _; rw [sizeLine_eq]; omega))
  refine wpAny_bind (wpAny_newList ?_ (Nat.zero_le _))
  refine wpAny_holding ?_
  show wpAny (model prog w) A _ P E { s with heap := ((s.heap.update a (Obj.mapSeq fun _ => (#[] : Array Value))).push (seqObj "tuple" vs.toArray 0)).push (seqObj "list" #[] 0) }
  dsimp only
  have hn2 : vs.toArray.size < 2 := by rw [List.size_toArray]; exact h2
  rw [if_pos hn2, if_pos hn2]
  generalize hH : (((s.heap.update a (Obj.mapSeq fun _ => (#[] : Array Value))).push (seqObj "tuple" vs.toArray 0)).push (seqObj "list" #[] 0)) = H at *
  have hout : ((vs.toArray.zip vs.toArray).map (·.2)) = List.toArray vs := by
    apply Array.toList_inj.mp
    simp [List.map_snd_zip]
  refine wpAny_bind (wpAny_pure ?_)
  show wpAny (model prog w) A (do
      let b ← seqEpoch a
      Builtin.List.listUpdate (Value.ref a) fun _ => ((vs.toArray.zip vs.toArray).map (·.2))
      if (b != e1) = true then do
          let _ ← rule "list.sort.modified"
          let _ : PUnit ← raiseErrorWords "ValueError" "list modified during sort"
          ret Value.none
        else ret Value.none) _ _ _
  rw [hout]
  have s2 := Heap.SameBut.update H a (Obj.mapSeq fun _ => List.toArray vs)
  obtain ⟨c2, hc2⟩ : ∃ c2, (H.update a (Obj.mapSeq fun _ => List.toArray vs)).get? a = some (seqObj "list" (List.toArray vs) c2) := ⟨_, get?_update_seq na fun _ => List.toArray vs⟩
  refine wpAny_bind (seqEpoch_at na rfl ?_)
  refine wpAny_bind (listUpdate_at na rfl ?_ (Nat.zero_le _) (by rw [List.size_toArray, sizeLine_eq]; omega))
  simp only [bne_self_eq_false, Bool.false_eq_true, if_false]
  refine wpAny_pure (h c2 _ (kas_fr F3 s2 haL ha0) fun q hq => ?_)
  rcases List.mem_cons.mp hq with rfl | hq
  · exact ⟨hc2, haL, ha0⟩
  · exact kas_news N2 s2 hna q hq
set_option maxHeartbeats 4000000 in
theorem sorted_short {l : Addr} {Q : Value → Shared → Prop} (F : Fr h₀ L s.heap m) (N : News h₀ L s.heap news) (hl : s.heap.IsList l vs.toArray) (h2 : vs.length < 2)
    (h : ∀ D c h', Fr h₀ L h' m → News h₀ L h' ((D, listOf vs.toArray c) :: news) → (∀ q ∈ news, q.1 < D) → Q (.ref D) { s with heap := h' }) :
    wpAny (model prog w) A (call (.builtin "sorted") [.ref l]) Q E s := by
  refine Calls.call_function_entry kind_sorted plain_sorted entry_sorted (args_sorted1 _) ?_
  unfold Builtin.«sorted»
  refine wpAny_bind (m := checkCount "sorted" 1 1 _) (wpAny_pure ?_)
  refine wpAny_bind (collect_list hl ?_ (by rw [sizeLine_eq]; omega))
  refine wpAny_bind (wpAny_newList ?_ (by rw [sizeLine_eq]; omega))
  have hsz : ((s.heap.push (seqObj "list" #[] 0)).update s.heap.objs.size (Obj.mapSeq (· ++ vs.toArray))).objs.size = s.heap.objs.size + 1 := by
    rw [Heap.size_update, size_push']
  have hoL : (((s.heap.push (seqObj "list" #[] 0)).update s.heap.objs.size (Obj.mapSeq (· ++ vs.toArray))).push (seqObj "list" vs.toArray 0)).get? (s.heap.objs.size + 1) = some (seqObj "list" vs.toArray 0) := by
    rw [← hsz]; exact Heap.get?_push_size _ rfl
  have keep : ∀ b o, s.heap.get? b = some o → (((s.heap.push (seqObj "list" #[] 0)).update s.heap.objs.size (Obj.mapSeq (· ++ vs.toArray))).push (seqObj "list" vs.toArray 0)).get? b = some o := fun b o q => by
    have hlt : b < s.heap.objs.size := Heap.lt_size q
    rw [Heap.get?_push_ne _ _ _ (by rw [hsz]; exact Nat.ne_of_lt (Nat.lt_succ_of_lt hlt)), Heap.get?_update_ne _ _ _ _ (Nat.ne_of_lt hlt), Heap.get?_push_ne _ _ _ (Nat.ne_of_lt hlt)]
    exact q
  have hL : L < s.heap.objs.size := F.ns.lt
  show wpAny _ _ _ _ _ { s with heap := ((s.heap.push (seqObj "list" #[] 0)).update s.heap.objs.size (Obj.mapSeq (· ++ vs.toArray))).push (seqObj "list" vs.toArray 0) }
  rw [hsz]
  refine wpAny_bind (wpAny_holding (wpAny_call_entry slot_list_sort ⟨_, hoL, rfl⟩ entry_list_sort ?body (args_list_sort _)))
  case body =>
    refine sort_short (s := { s with heap := ((s.heap.push (seqObj "list" #[] 0)).update s.heap.objs.size (Obj.mapSeq (· ++ vs.toArray))).push (seqObj "list" vs.toArray 0) })
      (F.kept keep) (N.grown keep) hoL (Nat.ne_of_gt (Nat.lt_succ_of_lt hL)) (Heap.get?_none_of_le (Nat.le_trans F.above (Nat.le_succ_of_le (Nat.le_of_lt hL))))
      (fun p hp => Nat.ne_of_lt (Nat.lt_succ_of_lt (Heap.lt_size (N p hp).1))) h2 fun c h' F' N' => ?_
    have z := h (s.heap.objs.size + 1) c h' F' N' fun q hq => Nat.lt_succ_of_lt (Heap.lt_size (N q hq).1)
    clear h N F keep hoL hsz hl
    exact ⟨_, rfl, wpAny_pure ⟨_, rfl, z⟩⟩
set_option maxHeartbeats 4000000 in
/-- sorted(a list), when the asks are answered by an injective key. -/
theorem sorted_by {l : Addr} {Q : Value → Shared → Prop} (F : Fr h₀ L s.heap m) (N : News h₀ L s.heap news) (hl : s.heap.IsList l vs.toArray) (h64 : vs.length < 64)
    (hk : ∀ i j, i < vs.length → j < vs.length → key i = key j → i = j)
    (hK : 2 ≤ vs.length → ∀ s' C, News h₀ L s'.heap news → C κ s' → wpAny (model prog w) A.in1.in1 (keyKind' vs.toArray) C (fun _ _ => False) s')
    (hC : ∀ s' C i j, i < vs.length → j < vs.length → News h₀ L s'.heap news → C (decide (key i < key j)) s' → wpAny (model prog w) A.in1.in1 (keyLt' κ (vs.getD i Value.none) (vs.getD j Value.none)) C (fun _ _ => False) s')
    (h : ∀ D c h' p, Fr h₀ L h' m → News h₀ L h' ((D, listOf (List.toArray (p.toList.map fun i => vs.getD i Value.none)) c) :: news) → (∀ q ∈ news, q.1 < D) → Pm vs.length p → Asc key p vs.length → Q (.ref D) { s with heap := h' }) :
    wpAny (model prog w) A (call (.builtin "sorted") [.ref l]) Q E s := by
  by_cases h2 : 2 ≤ vs.length
  · refine kat_sorted F N hl h2 h64 fun D e1 h' F' N' hD => ?_
    have Nt : News h₀ L h' news := fun q hq => N' q (.tail _ hq)
    refine hK h2 _ _ Nt ?_
    refine Sat.wp (S := fun s' => s' = { s with heap := h' }) (lt := ltk key) (n := vs.length) (P := fun p => Pm vs.length p ∧ Asc key p vs.length) (fun i j C s' hi hj hs hc => ?_) (fun p s' hp hs => ?_) (sat_sort hk h2) rfl
    · subst hs
      exact hC _ _ i j hi hj Nt (hc _ rfl)
    · subst hs
      exact KasFin.intro F' N' (.head fun q hq => Nat.ne_of_lt (hD q hq)) fun h'' c F'' N'' => h D c h'' p F'' N'' hD hp.1 hp.2
  · have h2' : vs.length < 2 := Nat.lt_of_not_le h2
    refine sorted_short F N hl h2' fun D c h' F' N' hD => ?_
    have e : ∀ ws : List Value, ws.length < 2 → (List.range ws.length).map (fun i => ws.getD i Value.none) = ws := fun ws hw => by
      match ws, hw with
      | [], _ => rfl
      | [v], _ => rfl
    have N2 : News h₀ L h' ((D, listOf (List.toArray ((List.range vs.length).map fun i => vs.getD i Value.none)) c) :: news) := by rw [e vs h2']; exact N'
    exact h D c h' (List.toArray (List.range vs.length)) F' N2 hD ⟨List.Perm.refl _⟩ (fun i j hij hj => absurd h2' (by omega))
end
end Mine

end
local macro_rules | `(tactic| walk_at "zz") => `(tactic| fail)
section
open PySem PySem.W PyProof.Rows PySem.Calls
namespace Mine
def bl (a b : List UInt8) : Bool := Builtin.Bytes.order a b == .lt
abbrev tupO (vs : List Value) : Obj := { cls := .type "tuple", data := .seq vs.toArray }
theorem slot_byl : Slot "bytes" "__lt__" "bytes.__lt__" :=
  .of (owner := "bytes") (n := "__lt__") (by rw [typeLookup_type, builtinLookup_eq_fast]; kernel_rfl) (by decide +kernel) (by decide +kernel) (by decide +kernel)
    (by first | exact .inl (by decide +kernel) | exact .inr (by decide +kernel)) (by rw [isSubtype_type]; kernel_rfl)
theorem slot_byl2 : Slot "bytes" (cmpInfo .Lt).2.1 "bytes.__lt__" :=
  .of (owner := "bytes") (n := "__lt__") (by rw [typeLookup_type, builtinLookup_eq_fast]; kernel_rfl) (by decide +kernel) (by decide +kernel) (by decide +kernel)
    (by first | exact .inl (by decide +kernel) | exact .inr (by decide +kernel)) (by rw [isSubtype_type]; kernel_rfl)
theorem entry_byl : entryFor table "bytes.__lt__" = some Builtin.«bytes.__lt__» := entryFor_of_tree (by kernel_rfl)
theorem args_byl (a b : Value) : argsOk "bytes.__lt__" ⟨[a, b], []⟩ := by unfold argsOk; kernel_rfl
theorem gives_byl (b c : Array UInt8) (t u : Tok) : Gives (Builtin.«bytes.__lt__» ⟨[.bytes b t, .bytes c u], []⟩) (.val (.bool (bl b.toList c.toList))) := by
  refine .of_wp fun M A E s Q hq => ?_
  show wpAny M A (isInstance (.bytes c u) (.type "bytes") >>= fun r => _) _ E s
  refine wpAny_bind (wpAny_isInstance (typeIs_bytes s c u) F.sub_bytes_bytes ?_)
  exact wpAny_pure ⟨_, rfl, hq⟩
section
variable {prog : Program} {w : World} {A : Around} {E : Value → Shared → Prop} {s : Shared} {h₀ : Heap} {L : Addr} {news : List (Addr × Obj)}
theorem oneLt_bytes {a b : Array UInt8} {t u : Tok} {Q : Bool → Shared → Prop} (h : Q (bl a.toList b.toList) s) : wpAny (model prog w) A (oneLt' true (.bytes a t) (.bytes b u)) Q E s := by
  rw [oneLt'_eq]
  simp only [if_true]
  refine wpAny_bind (wpAny_cRoomFor_byValue rfl ?_)
  refine wpAny_bind (wpAny_callSpecialIfBound?_slot (typeIs_bytes s a t) slot_byl (call_gives slot_byl (typeIs_bytes s a t) entry_byl (args_byl _ _) (gives_byl a b t u) ?_))
  exact wpAny_truthy_bool h
theorem cmp_byl {a b : Array UInt8} {t u : Tok} {Q : Value → Shared → Prop} (h : Q (.bool (bl a.toList b.toList)) s) : wpAny (model prog w) A (compareOp .Lt (.bytes a t) (.bytes b u)) Q E s :=
  compareOp_gives (op := .Lt) (typeIs_bytes s a t) (typeIs_bytes s b u) slot_byl2 entry_byl (args_byl _ _) (gives_byl a b t u) (fun e => nomatch e) h
theorem lt_pair {x y : Addr} {b c : Array UInt8} {n k : Int} {t u t' u' : Tok} {Q : Bool → Shared → Prop} (N : News h₀ L s.heap news) (hx : (x, tupO [.bytes b t, .int n u]) ∈ news) (hy : (y, tupO [.bytes c t', .int k u']) ∈ news)
    (h : Q (if b.toList = c.toList then decide (n < k) else bl b.toList c.toList) s) : wpAny (model prog w) A (keyLt' (tuples' true) (.ref x) (.ref y)) Q E s := by
  refine kat_lt (N _ hx).1 rfl (N _ hy).1 rfl ?_
  refine kat_cons (eqBool_bytes ?_)
  by_cases hb : b.toList = c.toList
  · rw [if_pos hb] at h
    rw [decide_eq_true hb]
    refine kat_yes (kat_cons (wpAny_eqBool_int ?_))
    by_cases hn : n = k
    · subst hn
      rw [beq_self_eq_true]
      refine kat_yes (kat_nil ?_)
      rw [decide_eq_false (Int.lt_irrefl _)] at h
      exact h
    · rw [beq_eq_false_iff_ne.mpr hn]
      exact kat_no (kat_one _ _ (PySem.wpAny_lt_int h))
  · rw [if_neg hb] at h
    rw [decide_eq_false hb]
    exact kat_no (oneLt_bytes h)
theorem lt_tup2 {x y : Addr} {a b n k : Int} {t u t' u' : Tok} {Q : Value → Shared → Prop} (hu : A.units < cLine) (hx : s.heap.get? x = some (tupO [.int a t, .int n u])) (hy : s.heap.get? y = some (tupO [.int b t', .int k u']))
    (h : Q (.bool (if a = b then decide (n < k) else decide (a < b))) s) : wpAny (model prog w) A (compareOp .Lt (.ref x) (.ref y)) Q E s := by
  have tx : IsTup s.heap x #[.int a t, .int n u] := ⟨_, hx, rfl, _, rfl⟩
  have ty : IsTup s.heap y #[.int b t', .int k u'] := ⟨_, hy, rfl, _, rfl⟩
  show wpAny (model prog w) A (richCompare .Lt (.ref x) (.ref y)) Q E s
  refine wpAny_richCompare_same_or (T := "tuple") tx.typeIs ty.typeIs PySem.F.slot_tuple_lt (wpAny_call_entry PySem.F.slot_tuple_lt tx.typeIs PySem.F.entry_tuple_lt ?_ (PySem.F.args_tuple_lt_2 _ _)) (.inr hu)
  show wpAny _ _ (do
    if !(← isInstance (.ref y) (.type "tuple")) then return ← ret .notImplemented
    let xs ← Builtin.Tuple.tupleItemsOf (.ref x)
    let ys ← Builtin.Tuple.tupleItemsOf (.ref y)
    for (x, y) in xs.toList.zip ys.toList do
      if !(← eqBool x y) then
        rule "tuple.compare.by-the-first-pair-that-differs"; return ← ret (← richCompare .Lt x y)
    ret (Builtin.Tuple.tupleCompareSizes .Lt xs.size ys.size)) _ _ _
  refine wpAny_bind (wpAny_isInstance ty.typeIs (b := true) (by rw [isSubtype_type]; kernel_rfl) ?_)
  refine wpAny_bind (tupleItemsOf_ tx (wpAny_bind (tupleItemsOf_ ty ?_)))
  have ez : (#[Value.int a t, Value.int n u].toList.zip #[Value.int b t', Value.int k u'].toList) = [(Value.int a t, Value.int b t'), (Value.int n u, Value.int k u')] := rfl
  rw [ez]
  simp only [List.forIn_cons, List.forIn_nil, bind_assoc]
  refine wpAny_bind (wpAny_eqBool_int ?_)
  by_cases hab : a = b
  · subst hab
    rw [if_pos rfl] at h
    simp only [beq_self_eq_true, Bool.not_true, Bool.false_eq_true, if_false, pure_bind]
    refine wpAny_bind (wpAny_bind (wpAny_eqBool_int ?_))
    by_cases hn : n = k
    · subst hn
      simp only [beq_self_eq_true, Bool.not_true, Bool.false_eq_true, if_false, pure_bind]
      rw [decide_eq_false (Int.lt_irrefl _)] at h
      exact wpAny_pure (wpAny_pure ⟨_, rfl, (fun e => nomatch e), h⟩)
    · simp only [beq_eq_false_iff_ne.mpr hn, Bool.not_false, if_true, bind_assoc]
      refine wpAny_bind (wpAny_bind (wpAny_rule (wpAny_pure ?_)))
      refine wpAny_bind (PySem.wpAny_lt_int ?_)
      refine wpAny_bind (wpAny_pure ?_)
      refine wpAny_bind (wpAny_pure ?_)
      exact wpAny_pure (wpAny_pure ⟨_, rfl, (fun e => nomatch e), h⟩)
  · rw [if_neg hab] at h
    simp only [beq_eq_false_iff_ne.mpr hab, Bool.not_false, if_true, bind_assoc]
    refine wpAny_bind (wpAny_rule (wpAny_bind (PySem.wpAny_lt_int ?_)))
    exact wpAny_bind (wpAny_pure (wpAny_pure ⟨_, rfl, (fun e => nomatch e), h⟩))
theorem eqB_tup2 {x y : Addr} {a b n k : Int} {t u t' u' : Tok} {Q : Bool → Shared → Prop} (hu : A.units + 64 < cLine) (hx : s.heap.get? x = some (tupO [.int a t, .int n u])) (hy : s.heap.get? y = some (tupO [.int b t', .int k u']))
    (h : Q (decide (a = b ∧ n = k)) s) : wpAny (model prog w) A (eqBool (.ref x) (.ref y)) Q E s := by
  unfold eqBool
  refine wpAny_holding ?_
  by_cases hxy : x = y
  · subst hxy
    rw [hx] at hy
    have e : [Value.int a t, Value.int n u] = [Value.int b t', Value.int k u'] := by injection hy with q; injection q with _ _ q; injection q with q; exact congrArg Array.toList q
    injection e with e1 e2
    injection e2 with e2 _
    injection e1 with e1 _
    injection e2 with e2 _
    subst e1 e2
    rw [decide_eq_true ⟨rfl, rfl⟩] at h
    show wpAny _ _ (if (Value.ref x == Value.ref x) = true then _ else _) Q E s
    rw [if_pos (by simp)]
    exact wpAny_bind (wpAny_rule (wpAny_pure h))
  · show wpAny _ _ (if (Value.ref x == Value.ref y) = true then _ else _) Q E s
    rw [if_neg (by simp [hxy])]
    have la := kqd_lay 9 (.tuple [.int a, .int n]) (by simp [kqdOk])
    have lb := kqd_lay 9 (.tuple [.int b, .int k]) (by simp [kqdOk])
    have q0 := kqd_eqv 9 (.tuple [.int a, .int n]) (.tuple [.int b, .int k]) 9 (by simp [kqdOk]) (by simp [kqdOk])
    simp only [kqdP, kqdPs] at la lb q0
    have q : wpAny (model prog w) A (compareOp .Eq (.ref x) (.ref y)) (fun v s' => v = .bool (decide (a = b ∧ n = k)) ∧ s' = s) E s := by
      refine eq_dataH (as := []) (bs := []) (reads_tuple_at hx rfl rfl (xs := [.int a, .int n]) ?_) (reads_tuple_at hy rfl rfl (xs := [.int b, .int k]) ?_) ?_ ?_ hu ?_
      · exact readsAll_cons_val (.int _ _) (readsAll_cons_val (.int _ _) .nil)
      · exact readsAll_cons_val (.int _ _) (readsAll_cons_val (.int _ _) .nil)
      · unfold SeqAt.shaped; rw [la.1, Bool.true_and]; exact decide_eq_true (Nat.le_trans la.2 (by decide))
      · unfold SeqAt.shaped; rw [lb.1, Bool.true_and]; exact decide_eq_true (Nat.le_trans lb.2 (by decide))
      · refine ⟨congrArg Value.bool ?_, rfl⟩
        rw [Bool.eq_iff_iff, q0, decide_eq_true_iff]
        simp
    refine wpAny_bind (wpAny_mono q (fun v s' hv => ?_) fun _ _ x => x)
    obtain ⟨rfl, rfl⟩ := hv
    exact wpAny_truthy_bool h
end
end Mine

end
local macro_rules | `(tactic| walk_at "zz") => `(tactic| fail)
section
open PySem PySem.W PyProof.Rows PySem.Calls
namespace Mine
theorem getD_some {α : Type} {l : List α} {i : Nat} {v d : α} (h : l[i]? = some v) : l.getD i d = v := by
  rw [List.getD_eq_getElem?_getD, h]; rfl
theorem range_getD {α : Type} (d : α) : ∀ l : List α, (List.range l.length).map (fun i => l.getD i d) = l := fun l => by
  apply List.ext_getElem
  · simp
  · intro i h1 h2
    simp [h2]
section
variable {prog : Program} {w : World} {A : Around} {E : Value → Shared → Prop} {s : Shared} {h₀ : Heap} {L : Addr} {m : Str → Option Value} {news : List (Addr × Obj)} {vs : List Value} {κ : SortKind} {α : Type} [Inhabited α]
theorem dat_map {pd : α → Dat} {xs : List α} (hd : DatAll news vs (xs.map pd)) : ∀ {is : List Nat}, (∀ i ∈ is, i < xs.length) → DatAll news (is.map fun i => vs.getD i Value.none) ((is.map fun i => xs.getD i default).map pd)
  | [], _ => .nil
  | i :: r, hi => by
    have hk : i < (xs.map pd).length := by rw [List.length_map]; exact hi i (.head _)
    obtain ⟨v, e1, e2⟩ := hd.get hk
    have hx : xs.getD i default = xs[i]'(hi i (.head _)) := by
      rw [List.getD_eq_getElem?_getD, List.getElem?_eq_getElem (hi i (.head _))]; rfl
    refine .cons ?_ (dat_map hd fun j hj => hi j (.tail _ hj))
    show DatIn news (vs.getD i Value.none) (pd (xs.getD i default))
    rw [getD_some e1, hx]
    rw [List.getElem_map] at e2
    exact e2
set_option maxHeartbeats 1000000 in
theorem sorted_dat {l : Addr} {Q : Value → Shared → Prop} (pd : α → Dat) (key : α → Int) {xs : List α} (F : Fr h₀ L s.heap m) (N : News h₀ L s.heap news) {nd : List (Addr × Obj)} (hl : s.heap.IsList l vs.toArray) (hd : DatAll nd vs (xs.map pd)) (h64 : xs.length < 64)
    (hnd : (xs.map key).Nodup)
    (hK : 2 ≤ vs.length → ∀ s' C, News h₀ L s'.heap news → C κ s' → wpAny (model prog w) A.in1.in1 (keyKind' vs.toArray) C (fun _ _ => False) s')
    (hC : ∀ s' C v u x y, x ∈ xs → y ∈ xs → News h₀ L s'.heap news → DatIn nd v (pd x) → DatIn nd u (pd y) → C (decide (key x < key y)) s' → wpAny (model prog w) A.in1.in1 (keyLt' κ v u) C (fun _ _ => False) s')
    (h : ∀ D c h' (ws : List Value) (ys : List α), Fr h₀ L h' m → News h₀ L h' ((D, listOf (List.toArray ws) c) :: news) → (∀ q ∈ news, q.1 < D) → DatAll nd ws (ys.map pd) → ys.Perm xs → (ys.map key).Pairwise (· < ·) → Q (.ref D) { s with heap := h' }) :
    wpAny (model prog w) A (call (.builtin "sorted") [.ref l]) Q E s := by
  have hlen : vs.length = xs.length := by rw [hd.length, List.length_map]
  have hkey : ∀ i j, i < vs.length → j < vs.length → key (xs.getD i default) = key (xs.getD j default) → i = j := fun i j hi hj e => by
    rw [hlen] at hi hj
    have ei : xs.getD i default = xs[i] := getD_some (List.getElem?_eq_getElem hi)
    have ej : xs.getD j default = xs[j] := getD_some (List.getElem?_eq_getElem hj)
    rw [ei, ej] at e
    have pw := List.pairwise_iff_getElem.mp hnd
    rcases Nat.lt_trichotomy i j with q | q | q
    · exact absurd (by rw [List.getElem_map, List.getElem_map]; exact e) (pw i j (by rw [List.length_map]; exact hi) (by rw [List.length_map]; exact hj) q)
    · exact q
    · exact absurd (by rw [List.getElem_map, List.getElem_map]; exact e.symm) (pw j i (by rw [List.length_map]; exact hj) (by rw [List.length_map]; exact hi) q)
  have getv : ∀ i, i < vs.length → ∃ x, x ∈ xs ∧ xs.getD i default = x ∧ DatIn nd (vs.getD i Value.none) (pd x) := fun i hi => by
    rw [hlen] at hi
    have hk : i < (xs.map pd).length := by rw [List.length_map]; exact hi
    obtain ⟨v, e1, e2⟩ := hd.get hk
    rw [List.getElem_map] at e2
    exact ⟨xs[i], List.getElem_mem hi, getD_some (List.getElem?_eq_getElem hi), by rw [getD_some e1]; exact e2⟩
  refine sorted_by (key := fun i => key (xs.getD i default)) F N hl (by rw [hlen]; exact h64) hkey hK (fun s' C i j hi hj N' hc => ?_) (fun D c h' p F' N' hD hp ha => ?_)
  · obtain ⟨x, mx, ex, dx⟩ := getv i hi
    obtain ⟨y, my, ey, dy⟩ := getv j hj
    rw [ex, ey] at hc
    exact hC s' C _ _ x y mx my N' dx dy hc
  · refine h D c h' _ (p.toList.map fun i => xs.getD i default) F' N' hD (dat_map hd fun i hi => ?_) ?_ ?_
    · have := hp.perm.mem_iff.mp hi
      rw [List.mem_range, hlen] at this
      exact this
    · have := hp.perm.map fun i => xs.getD i default
      rw [hlen] at this
      rwa [range_getD] at this
    · rw [List.map_map, List.pairwise_map]
      have hsz := hp.size
      rw [List.pairwise_iff_getElem]
      intro i j hi hj hij
      have := ha i j hij (by rw [← hsz]; simpa using hj)
      have gi : p.getD i 0 = p.toList[i] := by
        have hi' : i < p.size := by simpa using hi
        simp [Array.getD, hi']
      have gj : p.getD j 0 = p.toList[j] := by
        have hj' : j < p.size := by simpa using hj
        simp [Array.getD, hj']
      unfold KK' at this
      rw [gi, gj] at this
      exact this
end
end Mine

end
local macro_rules | `(tactic| walk_at "zz") => `(tactic| fail)
section
open PySem PySem.W PyProof.Rows PySem.Calls PyProof.Rows.LCg
namespace Mine
abbrev ceP (scope : Scope) (C : Addr) (env : Env) : Env := { newEnv scope C env.globals [] env.qual none .none (some env) builtinsNs with scope := scope }
section
variable {prog : Program} {w : World} {A : Around} {E : Value → Shared → Prop} {h₀ : Heap} {L : Addr} {m : Str → Option Value} {env : Env}
set_option maxHeartbeats 1000000 in
theorem blockP {elt iter : Expr} {x : Str} {px : Pos} {scope : Scope} {pos : Pos} {lv : Addr} {vs : List Value} {c : Nat} {J : Nat → List Value → List (Addr × Obj) → Prop} {s : Shared} {tups0 : List (Addr × Obj)} {Q : Value → Shared → Prop}
    (hh : A.handled = none) (hcell : ∀ y ∈ scope.names, y.2 ≠ .cell) (hfree : ∀ x ∈ scope.names, x.2 ≠ .free) (hkind : scope.kind = .function) (hnames : ∀ x ∈ scope.names, x.2 = .local → scope.names.lookup x.1 = some .local) (hx : scope.names.lookup x = some .local)
    (F : Fr h₀ L s.heap m) (N : News h₀ L s.heap ((lv, listOf vs.toArray c) :: tups0)) (hsz : vs.length ≤ 8) (J0 : J 0 [] tups0)
    (hit : ∀ Q' : Value → Shared → Prop, Q' (.ref lv) s → wpAny (model prog w) A (eval iter env) Q' E s)
    (step : ∀ i v I oI C oC D m₂ h tk ys tups, vs[i]? = some v → NsObj oC m₂ → m₂ x = some v → Fr h₀ L h m → News h₀ L h ((I, oI) :: (C, oC) :: (D, lst ys) :: (lv, listOf vs.toArray c) :: tups) → J i ys tups →
      wpP (model prog w) A (eval elt (ceP scope C env)) (fun y s' => ∃ h' tk' T oT, s' = { s with heap := h', toks := tk' } ∧ Fr h₀ L h' m ∧ News h₀ L h' ((T, oT) :: (I, oI) :: (C, oC) :: (D, lst ys) :: (lv, listOf vs.toArray c) :: tups) ∧
        T ≠ I ∧ T ≠ C ∧ T ≠ D ∧ J (i + 1) (ys ++ [y]) ((T, oT) :: tups)) NoE { s with heap := h, toks := tk })
    (fin : ∀ D h tk ys tups, Fr h₀ L h m → News h₀ L h ((D, lst ys) :: (lv, listOf vs.toArray c) :: tups) → J vs.length ys tups → Q (.ref D) { s with heap := h, toks := tk })
    (hs : ∀ x, foldedSetIterable iter env x = pure x := by intro _; rfl) :
    wpP (model prog w) A (eval (.ListComp elt [⟨.Name x px, iter, [], 0⟩] scope pos) env) Q E s := by
  have hl : s.heap.IsList lv vs.toArray := ⟨_, (N _ (.head _)).1, rfl, _, rfl⟩
  have hlt : lv < s.heap.objs.size := Heap.lt_size (N _ (.head _)).1
  refine P_ListComp hfree hkind hnames (hit _ (wpAny_pyIter_list hl (wpAny_newObj_type (wpAny_newFunctionEnv hcell (by intro y hy; simp at hy) (fun h₁ hns₁ hsb₁ => ?_) hkind)))) hs
  dsimp only at hns₁ hsb₁ ⊢
  generalize hH1 : s.heap.push { cls := .type "list_iterator", data := .fields #[.ref lv, .int 0 0] } = H1 at hns₁ hsb₁ ⊢
  generalize hH2 : H1.push { cls := .type "list", data := .seq #[] } = H2 at hns₁ hsb₁ ⊢
  have hD : H1.objs.size = s.heap.objs.size + 1 := by rw [← hH1, Heap.size_push]
  have hC : H2.objs.size = s.heap.objs.size + 1 + 1 := by rw [← hH2, Heap.size_push, hD]
  have up1 : ∀ b o, s.heap.get? b = some o → H1.get? b = some o := fun b o e => hH1 ▸ Heap.get?_push_of_some _ e
  have up2 : ∀ b o, H1.get? b = some o → H2.get? b = some o := fun b o e => hH2 ▸ Heap.get?_push_of_some _ e
  have up3 : ∀ b o, H2.get? b = some o → h₁.get? b = some o := fun b o e => hsb₁.extBut b o (Nat.ne_of_lt (Heap.lt_size e)) (Heap.get?_push_of_some _ e)
  have old : ∀ b o, s.heap.get? b = some o → h₁.get? b = some o := fun b o e => up3 _ _ (up2 _ _ (up1 _ _ e))
  have hacc : h₁.get? H1.objs.size = some (lst []) := up3 _ _ (hH2 ▸ Heap.get?_push_size _ rfl)
  have hItr : h₁.IsListIter s.heap.objs.size lv 0 := ⟨_, up3 _ _ (up2 _ _ (hH1 ▸ Heap.get?_push_size _ rfl)), rfl, rfl⟩
  have fresh₀ : ∀ a, s.heap.objs.size ≤ a → h₀.get? a = none := fun a ha => by
    cases e : h₀.get? a with
    | none => rfl
    | some o' => exact absurd (Heap.lt_size (F.keep a o' e)) (Nat.not_lt.mpr ha)
  have hLlt : L < s.heap.objs.size := F.ns.lt
  generalize hIe : s.heap.objs.size = I at *
  generalize hDe : H1.objs.size = D at *
  generalize hCe : H2.objs.size = C at *
  have W := Walks.list (prog := prog) (w := w) (A := A) hh I lv (Nat.ne_of_lt hlt) vs.toArray
  have hID : I ≠ D := by omega
  have hIC : I ≠ C := by omega
  have hDC : D ≠ C := by omega
  have hLI : L ≠ I := Nat.ne_of_lt hLlt
  have hLD : D ≠ L := by rw [hD]; exact Nat.ne_of_gt (Nat.lt_succ_of_lt hLlt)
  have hLC : C ≠ L := by rw [hC]; exact Nat.ne_of_gt (Nat.lt_succ_of_lt (Nat.lt_succ_of_lt hLlt))
  have hI₀ := fresh₀ I (Nat.le_refl _)
  have hD₀ := fresh₀ D (by omega)
  have hC₀ := fresh₀ C (by omega)
  have off0 : ∀ p ∈ (lv, listOf vs.toArray c) :: tups0, p.1 ≠ I ∧ p.1 ≠ C ∧ p.1 ≠ D := fun p hp => by
    have hl' := Heap.lt_size (N p hp).1
    rw [hIe] at hl'
    exact ⟨Nat.ne_of_lt hl', by rw [hC]; exact Nat.ne_of_lt (Nat.lt_succ_of_lt (Nat.lt_succ_of_lt hl')), by rw [hD]; exact Nat.ne_of_lt (Nat.lt_succ_of_lt hl')⟩
  have loop : ∀ s₃ : Shared, s₃ = { s with heap := h₁, toks := s.toks + ([] : List (Str × Value)).length } →
      codeP (model prog w) A (.compLoop (.ListComp elt [⟨.Name x px, iter, [], 0⟩] scope pos) 0 (.ref I) (.ref D) (ceP scope C env))
        (fun r s' => ∃ m, s'.heap.Ns C m ∧ ∀ h', Heap.SameBut C s'.heap h' → match r with | .ok _ => Q (.ref D) { s' with heap := h' } | .error _ => False) s₃ := by
    rintro s₃ rfl
    refine codeP_compLoop
      (fun k s' => ∃ h' tk i ys m' tups, s' = { s with heap := h', toks := tk } ∧ i ≤ vs.length ∧ k = vs.length + 1 - i ∧ ys.length = i ∧ h'.IsListIter I lv i ∧ Fr h₀ L h' m ∧ h'.Ns C m' ∧ News h₀ L h' ((D, lst ys) :: (lv, listOf vs.toArray c) :: tups) ∧
        (∀ p ∈ (lv, listOf vs.toArray c) :: tups, p.1 ≠ I ∧ p.1 ≠ C ∧ p.1 ≠ D) ∧ J i ys tups) ?_ (vs.length + 1)
      ⟨h₁, _, 0, [], _, tups0, rfl, Nat.zero_le _, rfl, rfl, hItr, F.keeps old, hns₁, fun p hp => ?_, off0, J0⟩
    · rintro k s' ⟨h', tk, i, ys, m', tups, rfl, hi, rfl, hyl, hit', F', hn', N', off', hJ⟩
      have hls : h'.IsList lv vs.toArray := ⟨_, (N' _ (.tail _ (.head _))).1, rfl, _, rfl⟩
      by_cases hlt' : i < vs.length
      · refine W.item i _ _ _ (by simpa using hlt') ⟨hit', hls⟩ fun v h₂ tk₂ hPv hst₂ hk₂ => ?_
        refine wpAny_assign_Name (wpAny_storeName_local hx (hn'.at' fun o e => hk₂ _ o (by simpa using Ne.symm hIC) e) (fun h₃ hn₃ hs₃ => ?_) (by simp [newEnv, hkind]))
        have hit₃ : h₃.IsListIter I lv (i + 1) := hst₂.1.at fun o e => hs₃.extBut I o hIC e
        obtain ⟨oI, heI, hIr⟩ := hit₃
        obtain ⟨oC, heC, hoC⟩ := ns_obj hn₃
        have F₃ : Fr h₀ L h₃ m := (fr_but F' hk₂ hLI hI₀).change hs₃ hLC hC₀
        have N₂ := news_but N' hk₂ fun p hp => by
          rcases List.mem_cons.mp hp with rfl | hp
          · exact Ne.symm hID
          · exact (off' p hp).1
        have N₃ : News h₀ L h₃ ((I, oI) :: (C, oC) :: (D, lst ys) :: (lv, listOf vs.toArray c) :: tups) := fun p hp => by
          rcases List.mem_cons.mp hp with rfl | hp
          · exact ⟨heI, Ne.symm hLI, hI₀⟩
          · rcases List.mem_cons.mp hp with rfl | hp
            · exact ⟨heC, hLC, hC₀⟩
            · have z := N₂ p hp
              refine ⟨hs₃.extBut _ _ ?_ z.1, z.2⟩
              rcases List.mem_cons.mp hp with rfl | hp
              · exact hDC
              · exact (off' p hp).2.1
        refine P_mono (step i v I oI C oC D _ h₃ _ ys tups (by simpa using hPv) hoC (by simp) F₃ N₃ hJ) (fun y s₄ h₄ => ?_) fun _ _ e => e
        obtain ⟨h₄, tk₄, T, oT, rfl, F₄, N₄, t1, t2, t3, hJ₄⟩ := h₄
        have zI := (N₄ (I, oI) (.tail _ (.head _))).1
        have zC := (N₄ (C, oC) (.tail _ (.tail _ (.head _)))).1
        have zD := N₄ (D, lst ys) (.tail _ (.tail _ (.tail _ (.head _))))
        refine append_at (hsz := by rw [List.size_toArray, hyl, sizeLine_eq]; omega) zD.1 fun h₅ hs₅ hD₅ => ?_
        have off5 : ∀ p ∈ (lv, listOf vs.toArray c) :: (T, oT) :: tups, p.1 ≠ I ∧ p.1 ≠ C ∧ p.1 ≠ D := fun p hp => by
          rcases List.mem_cons.mp hp with rfl | hp
          · exact off' _ (.head _)
          · rcases List.mem_cons.mp hp with rfl | hp
            · exact ⟨t1, t2, t3⟩
            · exact off' _ (.tail _ hp)
        refine ⟨vs.length + 1 - (i + 1), by omega, h₅, tk₄, i + 1, ys ++ [y], _, (T, oT) :: tups, rfl, hlt', rfl, by rw [List.length_append, List.length_singleton, hyl], ⟨oI, hs₅.extBut _ _ hID zI, hIr⟩, F₄.change hs₅ hLD hD₀,
          (hoC.ns zC).sameBut hs₅ (Ne.symm hDC), fun p hp => ?_, off5, hJ₄⟩
        rcases List.mem_cons.mp hp with rfl | hp
        · exact ⟨hD₅.trans (congrArg some (lst_snoc ys y)), hLD, hD₀⟩
        · have mem : p ∈ (T, oT) :: (I, oI) :: (C, oC) :: (D, lst ys) :: (lv, listOf vs.toArray c) :: tups := by
            rcases List.mem_cons.mp hp with rfl | hp
            · exact .tail _ (.tail _ (.tail _ (.tail _ (.head _))))
            · rcases List.mem_cons.mp hp with rfl | hp
              · exact .head _
              · exact .tail _ (.tail _ (.tail _ (.tail _ (.tail _ hp))))
          exact ⟨hs₅.extBut _ _ (off5 p hp).2.2 (N₄ p mem).1, (N₄ p mem).2⟩
      · obtain rfl : i = vs.length := Nat.le_antisymm hi (Nat.not_lt.mp hlt')
        refine W.done _ _ _ ⟨by simpa using hit', hls⟩ fun h₂ tk₂ hk₂ => ?_
        have F₂ := fr_but F' hk₂ hLI hI₀
        have N₂ := news_but N' hk₂ fun p hp => by
          rcases List.mem_cons.mp hp with rfl | hp
          · exact Ne.symm hID
          · exact (off' p hp).1
        refine ⟨_, hn'.at' fun o e => hk₂ _ o (by simpa using Ne.symm hIC) e, fun h'' hs'' => ?_⟩
        refine fin D h'' tk₂ ys tups (F₂.change hs'' hLC hC₀) (fun p hp => ?_) hJ
        refine ⟨hs''.extBut _ _ ?_ (N₂ p hp).1, (N₂ p hp).2⟩
        rcases List.mem_cons.mp hp with rfl | hp
        · exact hDC
        · exact (off' p hp).2.1
    · rcases List.mem_cons.mp hp with rfl | hp
      · exact ⟨hacc, hLD, hD₀⟩
      · exact ⟨old _ _ (N p hp).1, (N p hp).2⟩
  exact codeP_compStart (loop _ rfl) (W.self 0 _ _ _ ⟨hItr, hl.at fun o e => old _ _ e⟩ (loop _ rfl))
end
end Mine

end
local macro_rules | `(tactic| walk_at "zz") => `(tactic| fail)
section
open PySem PySem.W PyProof.Rows PySem.Calls
open Sem (wp)
namespace Mine
theorem mem_fr {h₀ h h' : Heap} {L : Addr} {m : Str → Option Value} {news nn : List (Addr × Obj)} (F : Fr h₀ L h m) (N : News h₀ L h news) (D : W.X.Mem h h' [] nn) : Fr h₀ L h' m ∧ News h₀ L h' (nn ++ news) := by
  have k : ∀ b o, h.get? b = some o → h'.get? b = some o := fun b o e => D.keep b o e (by simp [W.X.away])
  obtain ⟨oL, es, ep, hL, r⟩ := F.ns
  refine ⟨⟨⟨oL, es, ep, k L oL hL, r⟩, fun b o e => k b o (F.keep b o e), F.above⟩, fun p hp => ?_⟩
  rcases List.mem_append.mp hp with q | q
  · have z := D.nw p q
    refine ⟨z.1, fun e => ?_, ?_⟩
    · have := z.2; rw [e, hL] at this; cases this
    · cases w : h₀.get? p.1 with
      | none => rfl
      | some o => have := z.2; rw [F.keep _ _ w] at this; cases this
  · have z := N p q
    exact ⟨k _ _ z.1, z.2⟩
theorem mem_lt {h h' : Heap} {nn : List (Addr × Obj)} (D : W.X.Mem h h' [] nn) {p q : Addr × Obj} (hp : p ∈ nn) {o : Obj} (hq : h.get? q.1 = some o) : q.1 ≠ p.1 := fun e => by
  have := (D.nw p hp).2; rw [← e, hq] at this; cases this
theorem here519 (p : Program) (P : Params) : peek (KF P) ⟨p, P⟩ (Bind.madeHere "object.__new__" (.ref 519)) = some () := by kernel_rfl
theorem base519 (p : Program) (P : Params) : peek (KF P) ⟨p, P⟩ (Bind.staticBase (.ref 519)) = some (.type "object") := by kernel_rfl
theorem madeObj (p : Program) (P : Params) : peek (KF P) ⟨p, P⟩ (Bind.madeBy (.type "object")) = some (some "object.__new__") := by kernel_rfl
theorem sub519o (P : Params) : subIn (KF P) (.ref 519) (.type "object") = some true := by kernel_rfl
theorem ini519 (P : Params) : findIn (KF P) (.ref 519) "__init__" = some (some (.ref 306)) := by kernel_rfl
theorem tt519 (P : Params) : typeIn (KF P) (.ref 519) = some (.type "type") := by kernel_rfl
section
variable {w : World} {A : Around} {R : Result → Shared → Prop} {h : Heap} {g : Array GenState} {d : Drawn} {t : Nat} {os : OsState}
theorem onew_core (X : (KF w.params).In h)
    (hq : R (.ok (.ret (.ref (h.objs.size + 1)))) ⟨(h.push emptyDict).push (instObj 519 h.objs.size), g, d, t, os⟩) :
    codeAny (model PW w) A (.call (.builtin "object.__new__") ⟨[.ref 519], []⟩) R ⟨h, g, d, t, os⟩ := by
  have F := PySem.F.objNew
  have hK : ∃ oc od cd sl, (KF w.params).lookup 519 = some ⟨oc, od, .cls cd, sl⟩ ∧ cd.abstract = false ∧ cd.hasDel = false := ⟨_, _, _, _, rfl, rfl, rfl⟩
  obtain ⟨oc, od, cd, sl, hk, e1, e2⟩ := hK
  have hC := X _ _ hk
  refine codeAny_call_builtin_code (Code.quiet_builtin _ F.quiet) ?_
  simp only [checkBuiltinCall, F.kind, F.split, F.row]
  have base : Looks (model PW w) h (Bind.staticBase (.ref 519)) (.type "object") := Looks.of_peek X (base519 _ _)
  have made : Looks (model PW w) h (Bind.madeBy (.type "object")) (some "object.__new__") := Looks.of_peek X (madeObj _ _)
  have top : Looks (model PW w) h (isSubtype (.ref 519) (.type "object")) true := looks_subIn X (sub519o _)
  have ini : Looks (model PW w) h (typeLookup (.ref 519) "__init__") (some (.ref 306)) := looks_findIn X (ini519 _)
  have typ : Looks (model PW w) h (isInstance (.ref 519) (.type "type")) true := looks_instIn X (bio_typ _)
  have args : Bind.checkArgs "object.__new__" ⟨.hand, "object.__new__", "__new__", .cls, []⟩ ⟨[.ref 519], []⟩ = pure () := by kernel_rfl
  rw [args]
  repeat (first | simp only [bne_self_eq_false, Bool.false_eq_true, if_false] | lk)
  refine codeAny_builtin F.entry ?_
  unfold Builtin.«object.__new__»
  have fin : ∀ A', wpAny (model PW w) A' (do
      let d ← if typeHasDict (.ref 519) then some <$> alloc { cls := .type "dict", data := .dict #[] } else pure none
      ret (← newObj (.ref 519) .plain d)) (fun fin s' => match fin with | .done f => R (.ok f) s' | .again c' => c'.quiet = true ∧ codeAny (model PW w) A c' R s') (fun e s' => R (.error e) s') ⟨h, g, d, t, os⟩ := by
    intro A'
    show wpAny _ _ ((alloc emptyDict >>= fun x => pure (some x)) >>= _) _ _ _
    refine wpAny_bind (wpAny_bind (wpAny_alloc (wpAny_pure (wpAny_bind ?_))))
    show wpAny _ _ (newObjAsIs _ _ _) _ _ _
    unfold newObjAsIs classHasDel
    refine wpAny_bind (wpAny_alloc (wpAny_bind (wpAny_bind (wpAny_load (Heap.get?_push_of_some _ (Heap.get?_push_of_some _ hC)) (wpAny_pure ?_)))))
    rw [e2]
    refine wpAny_pure (wpAny_pure ?_)
    show R _ _
    rw [Heap.size_push]
    exact hq
  repeat (first | simp only [e1, bne_self_eq_false, Bool.false_eq_true, if_false, Bool.not_true] | exact fin _ | lk)
end
end Mine

end
local macro_rules | `(tactic| walk_at "zz") => `(tactic| fail)
section
open PySem PySem.W PyProof.Rows PySem.Calls
open Sem (wp)
namespace Mine
theorem onew_K {w : World} {A : Around} {E : Value → Shared → Prop} {s : Shared} {h₀ : Heap} {L : Addr} {m : Str → Option Value} {news : List (Addr × Obj)} {Q : Value → Shared → Prop}
    (F : Fr h₀ L s.heap m) (N : News h₀ L s.heap news) (X₀ : (KF w.params).In h₀)
    (h : ∀ x dx h', Fr h₀ L h' m → News h₀ L h' ((x, instObj 519 dx) :: (dx, emptyDict) :: news) → (∀ p ∈ news, p.1 < dx) → dx < x → Q (.ref x) { s with heap := h' }) :
    wpAny (model PW w) A (call (.builtin "object.__new__") [.ref 519]) Q E s := by
  obtain ⟨hh, g, d, t, os⟩ := s
  refine wpAny_call (onew_core (X₀.keeps F.keep) ?_)
  have N' := (N.push F emptyDict).push (F.push _) (instObj 519 hh.objs.size)
  rw [Heap.size_push] at N'
  exact h _ hh.objs.size _ ((F.push _).push _) N' (fun p hp => Heap.lt_size (N p hp).1) (Nat.lt_succ_self _)
theorem ba_news {h₀ h h' : Heap} {L : Addr} {m : Str → Option Value} {news : List (Addr × Obj)} {o : Obj} (F : Fr h₀ L h m) (N : News h₀ L h news)
    (ho : h'.get? h.objs.size = some o) (hf : o.isFreed = false) (hs : Heap.SameBut h.objs.size (h.push o) h') : Fr h₀ L h' m ∧ News h₀ L h' ((h.objs.size, o) :: news) ∧ ∀ p ∈ news, p.1 < h.objs.size := by
  have k : ∀ b x, h.get? b = some x → h'.get? b = some x := fun b x e => (hs.2 b (Nat.ne_of_lt (Heap.lt_size e))).trans (Heap.get?_push_of_some _ e)
  have F1 := F.push o
  have N1 := N.push F o hf
  obtain ⟨oL, es, ep, hL, r⟩ := F.ns
  refine ⟨⟨⟨oL, es, ep, k L oL hL, r⟩, fun b o e => k b o (F.keep b o e), F.above⟩, fun p hp => ?_, fun p hp => Heap.lt_size (N p hp).1⟩
  have z := N1 p hp
  rcases List.mem_cons.mp hp with rfl | q
  · exact ⟨ho, z.2⟩
  · exact ⟨k _ _ (N p q).1, z.2⟩
theorem news_drop2 {h₀ h : Heap} {L : Addr} {a b c d e : Addr × Obj} {tl : List (Addr × Obj)} (N : News h₀ L h (a :: b :: c :: d :: e :: tl)) : News h₀ L h (a :: b :: c :: tl) := fun q hq => by
  refine N q ?_
  rcases List.mem_cons.mp hq with r | hq
  · exact r ▸ .head _
  rcases List.mem_cons.mp hq with r | hq
  · exact r ▸ .tail _ (.head _)
  rcases List.mem_cons.mp hq with r | hq
  · exact r ▸ .tail _ (.tail _ (.head _))
  · exact .tail _ (.tail _ (.tail _ (.tail _ (.tail _ hq))))
theorem self519 (P : Params) : subIn (KF P) (.ref 519) (.ref 519) = some true := by kernel_rfl
theorem fn306 (P : Params) : typeIn (KF P) (.ref 306) = some (.type "function") := by kernel_rfl
theorem born_K {prog : Program} {w : World} {A : Around} {K : Frag} {C x f : Addr} {o : Obj} {rest : List Value} {kw : List (Str × Value)} {R : Result → Shared → Prop} {s : Shared} (X : K.In s.heap)
    (hx : s.heap.get? x = some o) (ho : o.cls = .ref C) (hs : subIn K (.ref C) (.ref C) = some true) (hi : findIn K (.ref C) "__init__" = some (some (.ref f))) (hf : typeIn K (.ref f) = some (.type "function"))
    (h : codeP (model prog w) A (.call (.ref f) ⟨.ref x :: rest, kw⟩) (fun r s' => r = .ok (.ret .none) ∧ R (.ok (.ret (.ref x))) s') s) : Born (model prog w) A C rest kw R (.ref x) s := by
  have t1 : Looks (model prog w) s.heap (typeOf (.ref x)) (.ref C) := ho ▸ (Looks.ld hx).andThen .now
  exact ⟨t1.andThen (looks_subIn X hs), f, t1.andThen (looks_findIn X hi), bind_fn X _ hf, h⟩
local macro_rules | `(tactic| k_room) => `(tactic| (simp only [depth_under_make, depth_under_kw, depth_in1, depth_deeper, depth_caller, aup_depth]; decide))
local macro_rules | `(tactic| walk_at "call builtin:object.__new__") => `(tactic| (k_here; k_dflt (refine' onew_K ?k1 ?k2 ?k3 ?_; (case k1 => k_asm); (case k2 => k_asm); (case k3 => k_asm); k_whole; intro x' d' h' F' N' l1 l2; (try k_lt l1); (try k_lt2 l2); (try k_sweep))))
set_option maxHeartbeats 4000000 in
theorem bio_P : ∀ (w : World) (p : Program) (loose : List Str) (mean : ExcName → Option Value) (mg mb : Str → Option Value) (A₀ : Around) (base h₀ : Heap) (L a : Addr) (m : Str → Option Value) (cn : Str) (cs : Scope) (ccd : Value) (outer : List Env) (news : List (Addr × Obj)) (s : Shared) (R : Result → Shared → Prop),
    Below A₀ base outer h₀ → Fr h₀ L s.heap m → (KF w.params).In h₀ → News h₀ L s.heap news → Top p loose mean mg mb h₀ →
    (∀ x dx bx t₁ t₂ t₃ h' tk, Fr h₀ L h' m → News h₀ L h' ((bx, baObj #[]) :: (x, instObj 519 dx) :: (dx, dictOf [⟨PyData.keyHash w.params "_BytesIO__buf", .str "_BytesIO__buf" t₁, .ref bx⟩, ⟨PyData.keyHash w.params "_BytesIO__pos", .str "_BytesIO__pos" t₂, .int 0 t₃⟩] 2) :: news) →
      AllLt dx news → dx < x → x < bx → R (.ok (.ret (.ref x))) { s with heap := h', toks := tk }) →
    codeP (model PySem.Challenge.rw_vn0026_01.prog w) (Aup (envOf cn (mkSc cs) L a ccd :: outer)) (.call (.ref 519) ⟨[], []⟩) R s := by
  k_fill
  w_on
  intro w p loose mean mg mb A₀ base h₀ L a m cn cs ccd outer news s R B F X₀ N T hR
  obtain ⟨hh, g, d, t, os⟩ := s
  have hK : ∃ oc od cd sl, (KF w.params).lookup 519 = some ⟨oc, od, .cls cd, sl⟩ ∧ cd.mro.isEmpty = false := ⟨_, _, _, _, rfl, rfl⟩
  obtain ⟨oc, od, cd, sl, hk, e1⟩ := hK
  have X := X₀.keeps F.keep
  have hC := X _ _ hk
  refine P_toTypeCall hC (looks_specialIn X (bio_call _)) (looks_instIn X (bio_typ _)) ?_
  refine P_typeCall (cd := cd) none e1 ((looks_clsIn X (by unfold clsIn; rw [hk])).andThen .now) (Looks.of_peek X (bio_made _ _)) ?_
  dsimp only
  clear hC hk e1 X
  k_steps
  rename Fr h₀ L _ m => F2
  rename News h₀ L _ _ => N2
  rename _ ∧ _ ∧ _ => l1
  rename _ < _ => l2
  dsimp only at F2 N2
  refine born_K (X₀.keeps F2.keep) (N2 _ (.head _)).1 rfl (self519 _) (bio_init _) (fn306 _) ?_
  refine' code_defP ?k1 ?k2 ?k3 ?k4 ?k5 ?kA ?kK ?k6 ?k7 ?k8 ?k9 ?kB ?_ ?c2 ?c3 ?c4 ?c5; (case kA => exact rfl); (case kK => exact rfl); (case k1 => k_asm); (case k2 => k_asm); (case k3 => k_asm); (case k4 => k_asm); (case k5 => k_asm); (case k6 => k_is); (case k7 => k_is); (case k8 => k_room); (case k9 => first | exact BindsTo.of_eq rfl | exact binds_K (by k_in) rfl (by k_is) rfl rfl rfl); (case c5 => decide); (case kB => exact locs rfl); (case c2 => exact rfl); (case c3 => exact rfl); (case c4 => exact rfl)
  clear N2 F2
  k_whole
  intro g' L' h' tk' FG' F' N' B' X' T'
  (try dsimp only)
  (try k_fold)
  refine P_execs_lift ?_
  k_steps
  dsimp only
  refine P_execs_cons (P_Assign_Attr (P_IfExp ?_) (by with_unfolding_all rfl))
  k_steps
  refine P_CallName ?_
  k_steps
  refine P_callWith rfl (evalArgs_nil3 ⟨⟨_, Looks.of_pure rfl⟩, P_call (bytearray0_P rfl fun h3 ho3 hs3 => ?_)⟩)
  rename Fr g' L' _ _ => F4
  rename News g' L' _ _ => N4
  obtain ⟨F5, N5, l5⟩ := ba_news F4 N4 ho3 rfl hs3
  clear F4 N4 ho3 hs3
  k_lt l5
  dsimp only at F5 N5 l5 ⊢
  generalize Array.size _ = bx at *
  k_steps
  dsimp only
  refine P_lift ?_
  k_steps
  rename Fr h₀ L _ m => F9
  rename News h₀ L _ _ => N9
  exact hR _ _ _ _ _ _ _ _ F9 (news_drop2 N9) l1.2.2 l2 l5.1
theorem bio_P' (w : World) {p : Program} {loose : List Str} {mean : ExcName → Option Value} {mg mb : Str → Option Value} {A₀ : Around} {base h₀ : Heap} {L a : Addr} {m : Str → Option Value} {cn : Str} {cs : Scope} {ccd : Value} {outer : List Env} {news : List (Addr × Obj)} {s : Shared} {R : Result → Shared → Prop}
    (hk : cs.kind = .function) (B : Below A₀ base outer h₀) (F : Fr h₀ L s.heap m) (X : (KF w.params).In h₀) (N : News h₀ L s.heap news) (T : Top p loose mean mg mb h₀)
    (h : ∀ x dx bx t₁ t₂ t₃ h' tk, Fr h₀ L h' m → News h₀ L h' ((bx, baObj #[]) :: (x, instObj 519 dx) :: (dx, dictOf [⟨PyData.keyHash w.params "_BytesIO__buf", .str "_BytesIO__buf" t₁, .ref bx⟩, ⟨PyData.keyHash w.params "_BytesIO__pos", .str "_BytesIO__pos" t₂, .int 0 t₃⟩] 2) :: news) →
      AllLt dx news → dx < x → x < bx → R (.ok (.ret (.ref x))) { s with heap := h', toks := tk }) :
    codeP (model PySem.Challenge.rw_vn0026_01.prog w) (Aup (envOf cn cs L a ccd :: outer)) (.call (.ref 519) ⟨[], []⟩) R s := by
  have z := bio_P w p loose mean mg mb A₀ base h₀ L a m cn cs ccd outer news s R B F X N T h
  rw [mkSc_eq hk] at z
  exact z
end Mine

end
local macro_rules | `(tactic| walk_at "zz") => `(tactic| fail)
local macro_rules | `(tactic| walk_at "zz") => `(tactic| fail)
section
open PySem PySem.W PyProof.Rows PySem.Calls
open Sem (wp)
namespace Mine
def Alow (l : List Env) : Around := { depth := 380, frames := some l, guards := some [], units := 400 }
theorem alow_depth (l : List Env) : (Alow l).depth = 380 := rfl
local macro_rules | `(tactic| k_room) => `(tactic| (simp only [depth_under_make, depth_under_kw, depth_in1, depth_deeper, depth_caller, aup_depth, alow_depth]; decide))
abbrev bioDict (P : Params) (t₁ t₂ t₃ : Tok) (bb : Addr) (pos : Int) : Obj :=
  dictOf [⟨PyData.keyHash P "_BytesIO__buf", .str "_BytesIO__buf" t₁, .ref bb⟩, ⟨PyData.keyHash P "_BytesIO__pos", .str "_BytesIO__pos" t₂, .int pos t₃⟩] 2
abbrev pkDict (P : Params) (t₁ t₂ t₃ t₄ t₅ t₆ t₇ t₈ : Tok) (bx : Addr) : Obj :=
  dictOf [⟨PyData.keyHash P "_strict_types", .str "_strict_types" t₁, .bool false⟩, ⟨PyData.keyHash P "_use_float", .str "_use_float" t₂, .bool false⟩, ⟨PyData.keyHash P "_autoreset", .str "_autoreset" t₃, .bool true⟩,
    ⟨PyData.keyHash P "_use_bin_type", .str "_use_bin_type" t₄, .bool true⟩, ⟨PyData.keyHash P "_buffer", .str "_buffer" t₅, .ref bx⟩, ⟨PyData.keyHash P "_unicode_errors", .str "_unicode_errors" t₆, .str "strict" t₇⟩, ⟨PyData.keyHash P "_default", .str "_default" t₈, .none⟩] 7
theorem pk_self (P : Params) : subIn (KF P) (.ref 879) (.ref 879) = some true := by kernel_rfl
theorem fn783 (P : Params) : typeIn (KF P) (.ref 783) = some (.type "function") := by kernel_rfl
theorem pk_makes (P : Params) : makesIn (KF P) 879 = true := by kernel_rfl
theorem keep519 (p : Program) (P : Params) : peek (KF P) ⟨p, P⟩ (keeperOf (.ref 519)) = some .machine := by kernel_rfl
theorem keep879 (p : Program) (P : Params) : peek (KF P) ⟨p, P⟩ (keeperOf (.ref 879)) = some .machine := by kernel_rfl
set_option maxHeartbeats 8000000 in
theorem packer_P : ∀ (w : World) (p : Program) (loose : List Str) (mean : ExcName → Option Value) (mg mb : Str → Option Value) (A₀ : Around) (base h₀ : Heap) (L a : Addr) (m : Str → Option Value) (cn : Str) (cs : Scope) (ccd : Value) (outer : List Env) (news : List (Addr × Obj)) (s : Shared) (R : Result → Shared → Prop),
    Below A₀ base outer h₀ → Fr h₀ L s.heap m → (KF w.params).In h₀ → News h₀ L s.heap news → Top p loose mean mg mb h₀ →
    (∀ x dx bx bd bb t₁ t₂ t₃ t₄ t₅ t₆ t₇ t₈ t₉ t₁₀ t₁₁ h' tk, Fr h₀ L h' m → News h₀ L h' ((bb, baObj #[]) :: (bx, instObj 519 bd) :: (bd, bioDict w.params t₁ t₂ t₃ bb 0) :: (x, instObj 879 dx) :: (dx, pkDict w.params t₄ t₅ t₆ t₇ t₈ t₉ t₁₀ t₁₁ bx) :: news) →
      AllLt dx news → dx < x → x < bd → bd < bx → bx < bb → R (.ok (.ret (.ref x))) { s with heap := h', toks := tk }) →
    codeP (model PySem.Challenge.rw_vn0026_01.prog w) (Alow (envOf cn (mkSc cs) L a ccd :: outer)) (.call (.ref 879) ⟨[], []⟩) R s := by
  k_fill
  w_on
  intro w p loose mean mg mb A₀ base h₀ L a m cn cs ccd outer news s R B F X₀ N T hR
  obtain ⟨hh, g, d, t, os⟩ := s
  have hK : ∃ oc od cd sl, (KF w.params).lookup 879 = some ⟨oc, od, .cls cd, sl⟩ ∧ cd.mro.isEmpty = false := ⟨_, _, _, _, rfl, rfl⟩
  obtain ⟨oc, od, cd, sl, hk, e1⟩ := hK
  have X := X₀.keeps F.keep
  have hC := X _ _ hk
  refine P_toTypeCall hC (looks_specialIn X (pk_call _)) (looks_instIn X (pk_typ _)) ?_
  refine P_typeCall (cd := cd) (some "object.__new__") e1 ((looks_clsIn X (by unfold clsIn; rw [hk])).andThen .now) (Looks.of_peek X (pk_made _ _)) ?_
  dsimp only
  refine wpAny_call (new_K (makes_of X (pk_makes _)) (looks_findIn X (pk_init _)) (.inl rfl) ?_)
  dsimp only
  have N2 := (N.push F emptyDict).push (F.push _) (instObj 879 hh.objs.size)
  have F2 := (F.push emptyDict).push (instObj 879 hh.objs.size)
  rw [Heap.size_push] at N2
  have l1 : ∀ p ∈ news, p.1 < hh.objs.size := fun p hp => Heap.lt_size (N p hp).1
  have l2 : hh.objs.size < hh.objs.size + 1 := Nat.lt_succ_self _
  clear hC hk e1 X N F
  generalize hx : hh.objs.size + 1 = x at *
  generalize hdx : hh.objs.size = dx at *
  generalize hh2 : (hh.push emptyDict).push (instObj 879 dx) = h2 at *
  clear hx hdx hh2
  replace l1 := allLt_of l1
  refine born_K (X₀.keeps F2.keep) (N2 _ (.head _)).1 rfl (pk_self _) (pk_init _) (fn783 _) ?_
  refine' code_defP ?k1 ?k2 ?k3 ?k4 ?k5 ?kA ?kK ?k6 ?k7 ?k8 ?k9 ?kB ?_ ?c2 ?c3 ?c4 ?c5; (case kA => exact rfl); (case kK => exact rfl); (case k1 => k_asm); (case k2 => k_asm); (case k3 => k_asm); (case k4 => k_asm); (case k5 => k_asm); (case k6 => k_is); (case k7 => k_is); (case k8 => k_room); (case k9 => (refine' kp_binds ?kx ?ke; (case kx => k_in); (case ke => exact fun _ => rfl))); (case c5 => decide); (case kB => exact locs rfl); (case c2 => exact rfl); (case c3 => exact rfl); (case c4 => exact rfl)
  clear N2 F2
  k_whole
  intro g' L' h' tk' FG' F' N' B' X' T'
  (try dsimp only)
  (try k_fold)
  refine P_execs_lift ?_
  k_steps
  dsimp only
  refine P_execs_lift ?_
  k_steps
  dsimp only
  refine P_execs_lift ?_
  k_steps
  dsimp only
  refine P_execs_lift ?_
  k_steps
  dsimp only
  refine P_execs_cons (P_Assign_Attr (P_CallName ?_) (by with_unfolding_all rfl))
  k_steps
  refine P_callWith rfl (evalArgs_nil3 ⟨⟨_, Looks.of_peek (by k_in) (keep519 _ _)⟩, P_call (codeP_up (bio_P' w rfl (by k_asm) (by k_asm) (by k_asm) (by k_asm) (by k_asm) fun bx' bd' bb' t1' t2' t3' h3 tk3 F3 N3 l3 l4 l5 => ?_) rfl)⟩)
  dsimp only
  simp only [AllLt] at l3
  k_lt2 l4
  k_lt2 l5
  k_steps
  dsimp only
  refine P_lift ?_
  k_steps
  rename Fr h₀ L _ m => F9
  rename News h₀ L _ _ => N9
  exact hR _ _ _ _ _ _ _ _ _ _ _ _ _ _ _ _ _ _ F9 N9 l1 l2 l3.1 l4 l5
end Mine

end
local macro_rules | `(tactic| walk_at "zz") => `(tactic| fail)
section
open PySem PySem.W PyProof.Rows PySem.Calls Builtin Builtin.Bytes
open Sem (wp)
set_option linter.deprecated false
namespace Mine
section
variable {prog : Program} {w : World} {A : Around} {E : Value → Shared → Prop} {s : Shared}
theorem newCall_ba1 (a : Value) : checkBuiltinCall "bytearray.__new__" ⟨[.type "bytearray", a], []⟩ = pure () := by kernel_rfl
theorem typeCall_ba1 (a : Value) : checkTypeCall "bytearray" ⟨[a], []⟩ = pure () := by kernel_rfl
theorem args_bai1 (a b : Value) : argsOk "bytearray.__init__" ⟨[a, b], []⟩ := by unfold argsOk; kernel_rfl
theorem bo_bai1 (v : Value) : bindOptional "bytearray.__init__" "bytearray" ["source", "encoding", "errors"] [v] [] = pure [some v, none, none] := by kernel_rfl
theorem tl_index : typeLookup (.type "bytes") "__index__" = pure none := by rw [typeLookup_type, builtinLookup_eq_fast]; kernel_rfl
theorem tl_buffer : typeLookup (.type "bytes") "__buffer__" = pure (some (.builtin "bytes.__buffer__")) := by rw [typeLookup_type, builtinLookup_eq_fast]; kernel_rfl
theorem tl_rel : typeLookup (.type "bytes") "__release_buffer__" = pure none := by rw [typeLookup_type, builtinLookup_eq_fast]; kernel_rfl
theorem sub_yy : isSubtype (.type "bytes") (.type "bytes") = pure true := by rw [isSubtype_type]; kernel_rfl
theorem drop_bb : "bytes.__buffer__".dropRight ("__buffer__".length + 1) = "bytes" := by decide +kernel
theorem code_ba_new1 {a : Value} {Q₁ : Value → Shared → Prop} (h : Q₁ (.ref s.heap.objs.size) { s with heap := s.heap.push (baObj #[]) }) :
    codeAny (model prog w) A (.call (.builtin "bytearray.__new__") ⟨[.type "bytearray", a], []⟩) (wants Q₁ E) s := by
  refine codeAny_of_tree ?_
  show wpAny _ A.in1 (do checkBuiltinCall "bytearray.__new__" ⟨[.type "bytearray", a], []⟩; again (.builtin "bytearray.__new__" ⟨[.type "bytearray", a], []⟩)) _ _ s
  refine wpAny_bind (wpAny_of_eq (newCall_ba1 a) (wpAny_pure ⟨plainId_quiet plain_ban _, codeAny_builtin_stack entry_ban rfl fun p st => ?_⟩))
  rw [Around.under_plainId plain_ban _]
  have hsub := sub_ba
  have hown : ("bytearray.__new__".splitOn ".__new__").headD "" = "bytearray" := by rw [split_bytearray]; rfl
  obtain ⟨hp, g, d, tk, os⟩ := s
  simp only [hown]
  wp_walk
  exact h
theorem past_ba {b : Array UInt8} (hz : b.size ≤ 1000) : (baObj b).data.pastItsLine = none := by
  show (if b.size > sizeLine then some "bytearray:memory" else none) = none
  exact if_neg (by rw [sizeLine_eq]; omega)
set_option maxHeartbeats 1000000 in
theorem bytearray1_P {b : Array UInt8} {bt : Tok} {R : Result → Shared → Prop} (hg : A.guards = some []) (hz : b.size ≤ 1000)
    (h : ∀ h', h'.get? s.heap.objs.size = some (baObj b) → Heap.SameBut s.heap.objs.size (s.heap.push (baObj #[])) h' → R (.ok (.ret (.ref s.heap.objs.size))) { s with heap := h' }) :
    codeP (model prog w) A (.call (.type "bytearray") ⟨[.bytes b bt], []⟩) R s := by
  refine codeP_of_tree rfl ?_
  show wpP _ _ (callAny (.type "bytearray") _) _ _ _
  refine P_pure (show FinP _ _ _ (.again (.builtin "type.__call__" ⟨[.type "bytearray", .bytes b bt], []⟩)) _ from ⟨Code.quiet_builtin _ (by decide +kernel), ?_⟩)
  refine codeP_of_tree (by show decodersThatHold.contains "type.__call__" = false; decide +kernel) ?_
  refine P_of_eq (den_builtin F.entry_type_call _) ?_
  rw [Around.under_plain (weight_type_call_type "bytearray" [.bytes b bt] []) (units_type_call_type "bytearray" [.bytes b bt] [])]
  unfold Builtin.«type.__call__»
  simp only [typeCall_ba1, mro_ba, made_ba, pure_bind, ba_notType, ba_can, Bool.false_eq_true, if_false, List.isEmpty]
  refine P_bindL (wpAny_holding (wpAny_call (codeAny_mono (code_ba_new1 (Q₁ := fun v s' => v = .ref s.heap.objs.size ∧ s' = { s with heap := s.heap.push (baObj #[]) }) (E := fun _ _ => False) ⟨rfl, rfl⟩) fun r s₁ hr => ?_)))
  rcases r with e | (v | _ | _ | _) <;> first | exact hr.elim | skip
  obtain ⟨rfl, rfl⟩ := hr
  obtain ⟨hp, g, d, tk, os⟩ := s
  dsimp only at h ⊢
  have ho : (hp.push (baObj #[])).get? hp.objs.size = some (baObj #[]) := Heap.get?_push_size _ rfl
  have hT : Shared.TypeIs ⟨hp.push (baObj #[]), g, d, tk, os⟩ (.ref hp.objs.size) "bytearray" := ⟨_, ho, rfl⟩
  refine P_bindL (wpAny_isInstance hT sub_bb ?_)
  rw [if_neg (by decide)]
  unfold callSpecial?
  refine P_bind (P_holding (P_bindL (wpAny_specialOf hT slot_bai.lookup ?_)))
  dsimp only
  refine P_holding (P_bindL (wpAny_of_eq (slot_bai.bind _) ?_))
  dsimp only
  refine P_bind (P_call (codeP_call_builtin slot_bai.plain (by decide +kernel) entry_bai (slot_bai.check _ _ _ _ _ _ _ _ hT (args_bai1 _ _) ?_)))
  unfold Builtin.«bytearray.__init__»
  dsimp only
  refine P_bindL ?_
  unfold ownRelease slotIsOwn
  refine wpAny_bind (wpAny_bind (wpAny_specialOf hT rel_ba ?_))
  dsimp only
  rw [if_neg (by decide +kernel)]
  rw [drop_ba]
  refine (wpAny_isInstance hT sub_bb ?_)
  refine wpAny_pure ?_
  rw [if_neg (by decide)]
  refine P_bindL (wpAny_of_eq (bo_bai1 _) ?_)
  dsimp only
  refine P_bindL (m := checkCodecArg "bytearray.__init__" "bytearray" "encoding" none) (wpAny_pure ?_)
  refine P_bindL (m := checkCodecArg "bytearray.__init__" "bytearray" "errors" none) (wpAny_pure ?_)
  have hgA : A.in1.in1.guards = some [] := hg
  refine P_bind ?_
  show wpP _ _ (exported (.ref hp.objs.size) >>= fun b => _) _ _ _
  refine P_bind (P_exported hgA ?_)
  show wpP _ _ (exportsOf (.ref hp.objs.size) >>= fun b => _) _ _ _
  refine P_bindL (wpAny_bind (wpAny_load ho (wpAny_pure ?_)))
  refine P_pure ?_
  rw [if_neg (by decide)]
  refine P_bindL (m := updateBytearray hp.objs.size fun _ => #[]) ?_
  unfold updateBytearray
  refine wpAny_bind (wpAny_load ho ?_)
  dsimp only
  have hs : Heap.SameBut hp.objs.size (hp.push (baObj #[])) ((hp.push (baObj #[])).update hp.objs.size (Obj.mapBytearray fun _ => #[])) := Heap.SameBut.update ..
  have ho' : ((hp.push (baObj #[])).update hp.objs.size (Obj.mapBytearray fun _ => #[])).get? hp.objs.size = some (baObj #[]) := Heap.get?_update_self _ ho rfl
  refine wpAny_bind (wpAny_update ho (wpAny_lookBehind ho' rfl ?_))
  generalize (hp.push (baObj #[])).update hp.objs.size (Obj.mapBytearray fun _ => #[]) = h1 at hs ho' ⊢
  refine P_bindL (m := asStr? (.bytes b bt)) (wpAny_pure ?_)
  rw [if_neg (by decide)]
  refine P_bindL ?_
  rw [if_neg (by decide), if_neg (by decide)]
  have hV : Shared.TypeIs ⟨h1, g, d, tk, os⟩ (.bytes b bt) "bytes" := rfl
  refine wpAny_pure (P_bindL (wpAny_specialOf hV tl_index ?_))
  rw [if_neg (by decide)]
  refine P_bindL ?_
  unfold buffer?
  refine wpAny_bind (wpAny_specialOf hV tl_buffer ?_)
  dsimp only
  unfold slotIsOwn
  refine wpAny_bind (wpAny_bind (wpAny_specialOf hV tl_buffer ?_))
  dsimp only
  rw [if_neg (by decide +kernel), drop_bb]
  refine (wpAny_isInstance hV sub_yy ?_)
  rw [if_neg (by decide)]
  refine wpAny_bind (wpAny_specialOf hV tl_buffer ?_)
  refine wpAny_bind (m := ownRelease (.bytes b bt)) ?_
  unfold ownRelease slotIsOwn
  refine wpAny_bind (wpAny_bind (wpAny_specialOf hV tl_rel ?_))
  refine wpAny_pure (wpAny_pure ?_)
  rw [if_neg (by decide)]
  refine wpAny_bind (m := payload (.bytes b bt)) (wpAny_pure (wpAny_pure ?_))
  dsimp only
  refine P_bindL (wpAny_rule (P_bindL (m := updateBytearray hp.objs.size fun _ => b) ?_))
  unfold updateBytearray
  refine wpAny_bind (wpAny_load ho' ?_)
  dsimp only
  have hs2 : Heap.SameBut hp.objs.size h1 (h1.update hp.objs.size (Obj.mapBytearray fun _ => b)) := Heap.SameBut.update ..
  have ho2 : (h1.update hp.objs.size (Obj.mapBytearray fun _ => b)).get? hp.objs.size = some (baObj b) := Heap.get?_update_self _ ho' rfl
  refine wpAny_bind (wpAny_update ho' (wpAny_lookBehind ho2 (past_ba hz) ?_))
  refine P_bindL (wpAny_pure (P_pure ?_))
  refine P_pure ?_
  dsimp only
  rw [if_neg (by decide)]
  refine P_pure ?_
  exact h _ ho2 (hs.trans hs2)
end
end Mine

end
local macro_rules | `(tactic| walk_at "zz") => `(tactic| fail)
section
open PySem PySem.W PyProof.Rows PySem.Calls Builtin Builtin.Bytes
open Sem (wp)
set_option linter.deprecated false
namespace Mine
section
variable {prog : Program} {w : World} {A : Around} {E : Value → Shared → Prop} {s : Shared}
theorem slot_bas : Slot "bytearray" "__setitem__" "bytearray.__setitem__" := Slot.of (T := "bytearray") (name := "__setitem__") (owner := "bytearray") (n := "__setitem__") (by rw [typeLookup_type, builtinLookup_eq_fast]; kernel_rfl) (by decide +kernel) (by decide +kernel) (by decide +kernel)
    (.inl (by decide +kernel)) (by rw [isSubtype_type]; kernel_rfl)
theorem entry_bas : entryFor table "bytearray.__setitem__" = some Builtin.«bytearray.__setitem__» := entryFor_of_tree (by kernel_rfl)
theorem args_bas (a b c : Value) : argsOk "bytearray.__setitem__" ⟨[a, b, c], []⟩ := by unfold argsOk; kernel_rfl
theorem ti_index : typeLookup (.type "int") "__index__" = pure (some (.builtin "int.__index__")) := by rw [typeLookup_type, builtinLookup_eq_fast]; kernel_rfl
theorem tb_int : typeLookup (.type "bytes") "__int__" = pure none := by rw [typeLookup_type, builtinLookup_eq_fast]; kernel_rfl
theorem tb_float : typeLookup (.type "bytes") "__float__" = pure none := by rw [typeLookup_type, builtinLookup_eq_fast]; kernel_rfl
theorem sub_y_ba : isSubtype (.type "bytes") (.type "bytearray") = pure false := by rw [isSubtype_type]; kernel_rfl
theorem sub_y_cx : isSubtype (.type "bytes") (.type "complex") = pure false := by rw [isSubtype_type]; kernel_rfl
theorem tsl_index : typeLookup (.type "slice") "__index__" = pure none := by rw [typeLookup_type, builtinLookup_eq_fast]; kernel_rfl
abbrev slObj (a b c : Value) : Obj := { cls := .type "slice", data := .fields #[a, b, c] }
theorem int_ne_none (i : Int) (t : Tok) : ¬((Value.int i t == Value.none) = true) := by rw [beq_iff_eq]; exact fun h => nomatch h
theorem part_int {M : Model} {A : Around} {E : Value → Shared → Prop} {s : Shared} {i : Int} {t : Tok} {Q : Value → Shared → Prop} (q : Q (rawInt i) s) {r : Sem Value} :
    wpAny M A (if (Value.int i t == Value.none) = true then pure Value.none else specialOf (.int i t) "__index__" >>= fun z => if z.isNone = true then r else asIndex (.int i t) >>= fun y => pure (rawInt y)) Q E s := by
  rw [if_neg (int_ne_none _ _)]
  have hI : s.TypeIs (.int i t) "int" := rfl
  refine wpAny_bind (wpAny_specialOf hI ti_index ?_)
  rw [if_neg (by decide)]
  exact wpAny_bind (m := asIndex (.int i t)) (wpAny_pure (wpAny_pure q))
theorem sliceParts_L {M : Model} {h : Heap} {sl : Addr} {i j : Int} {ti tj : Tok} (ho : h.get? sl = some (slObj (.int i ti) (.int j tj) .none)) :
    Looks M h (sliceParts (.ref sl)) (rawInt i, rawInt j, .none) := by
  intro A Q E s k q
  have ho' := k _ _ ho
  unfold sliceParts
  refine wpAny_bind (wpAny_field ho' rfl (x := .none) rfl ?_)
  refine wpAny_bind ?_
  dsimp only
  rw [if_pos (show (Value.none == Value.none) = true by decide)]
  refine wpAny_pure ?_
  rw [if_neg (show ¬((Value.none == rawInt 0) = true) by decide)]
  refine wpAny_bind (wpAny_field ho' rfl (x := .int i ti) rfl (wpAny_bind (part_int ?_)))
  exact wpAny_bind (wpAny_field ho' rfl (x := .int j tj) rfl (wpAny_bind (part_int (wpAny_pure q))))
theorem si0 (k : Nat) : sliceIndices (rawInt 0) (rawInt (k : Int)) .none (#[] : Array UInt8).size = pure (0, 0, 1) := by
  unfold sliceIndices
  have e : ∀ i : Int, asIndex (rawInt i) = pure i := fun _ => rfl
  have n1 : ∀ i : Int, (rawInt i == Value.none) = false := fun i => by rw [beq_eq_false_iff_ne]; exact fun h => nomatch h
  have n2 : (Value.none == Value.none) = true := by decide
  simp only [e, n1, n2, Bool.false_eq_true, if_false, if_true, pure_bind]
  rw [if_neg (by decide)]
  simp only [show (1:Int) > 0 from by decide, if_true, pure_bind]
  have z : ((#[] : Array UInt8).size : Int) = 0 := rfl
  rw [z]
  have a1 : max (0:Int) (min (if (0:Int) < 0 then 0 + 0 else 0) 0) = 0 := by decide
  have a2 : max (0:Int) (min (if (k:Int) < 0 then (k:Int) + 0 else (k:Int)) 0) = 0 := by rw [if_neg (by omega)]; omega
  rw [a1, a2]
set_option maxHeartbeats 1000000 in
theorem setitem_P {ba sl : Addr} {b : Array UInt8} {bt t0 tn : Tok} {n : Int} {Q : Unit → Shared → Prop} (hg : A.guards = some []) (hz : b.size ≤ 1000) (hn : n = b.size)
    (hb : s.heap.get? ba = some (baObj #[])) (hsl : s.heap.get? sl = some (slObj (.int 0 t0) (.int n tn) .none))
    (h : ∀ h', h'.get? ba = some (baObj b) → (∀ a o, a ≠ ba → s.heap.get? a = some o → h'.get? a = some o) → Q () { s with heap := h' }) :
    wpP (model prog w) A (setItem (.ref ba) (.ref sl) (.bytes b bt)) Q E s := by
  obtain ⟨hp, g, d, tk, os⟩ := s
  dsimp only at h hb hsl
  have hT : Shared.TypeIs ⟨hp, g, d, tk, os⟩ (.ref ba) "bytearray" := ⟨_, hb, rfl⟩
  have hS : Shared.TypeIs ⟨hp, g, d, tk, os⟩ (.ref sl) "slice" := ⟨_, hsl, rfl⟩
  have hV : Shared.TypeIs ⟨hp, g, d, tk, os⟩ (.bytes b bt) "bytes" := rfl
  unfold setItem
  refine P_holding (P_bindL ?_)
  unfold sequenceKey
  refine wpAny_bind (wpAny_typeOf hT ?_)
  dsimp only
  rw [if_pos (by decide +kernel)]
  refine wpAny_pure ?_
  unfold callSpecial?
  refine P_bind (P_bindL (wpAny_specialOf hT slot_bas.lookup ?_))
  dsimp only
  refine P_holding (P_bindL (wpAny_of_eq (slot_bas.bind _) ?_))
  dsimp only
  refine P_bind (P_call (codeP_call_builtin slot_bas.plain (by decide +kernel) entry_bas (slot_bas.check _ _ _ _ _ _ _ _ hT (args_bas _ _ _) ?_)))
  unfold Builtin.«bytearray.__setitem__»
  dsimp only
  rw [if_neg (by decide)]
  dsimp only [List.cons_append, List.nil_append]
  have f1 := tsl_index
  have f2 := tl_index
  have f3 := tb_int
  have f4 := tb_float
  have f5 := sub_y_cx
  have f6 := sub_y_ba
  refine P_bindL (m := subscript? (.ref sl)) ?_
  unfold subscript?
  refine wpAny_bind (wpAny_specialOf hS tsl_index ?_)
  rw [if_pos (by decide)]
  refine wpAny_pure ?_
  dsimp only
  refine P_bindL (wpAny_typeOf hS ?_)
  rw [if_neg (by decide)]
  refine P_bindL ((sliceParts_L hsl).here ?_)
  rw [if_neg (show ¬(Bytes.sameRef (.ref ba) (.bytes b bt) = true) from Bool.false_ne_true)]
  refine P_bindL (wpAny_isInstance hV sub_y_ba ?_)
  rw [if_pos (by decide)]
  refine P_bindL ?_
  wp_walk
  refine P_bindL (m := asStr? (.bytes b bt)) (wpAny_pure ?_)
  rw [if_neg (by decide)]
  refine P_bindL (wpAny_rule ?_)
  have hg1 : A.in1.guards = some [] := hg
  refine P_bind (P_call (bytearray1_P hg1 hz fun h1 ho1 hs1 => ?_))
  dsimp only at ho1 hs1 ⊢
  have keep1 : ∀ a o, hp.get? a = some o → h1.get? a = some o := fun a o e => (hs1.2 a (Nat.ne_of_lt (Heap.lt_size e))).trans (Heap.get?_push_of_some _ e)
  have hsl1 := keep1 _ _ hsl
  have hb1 := keep1 _ _ hb
  refine P_bindL (wpAny_holding ((sliceParts_L hsl1).here ?_))
  refine P_bindL (m := payload (.ref hp.objs.size)) ?_
  unfold payload payload?
  refine wpAny_bind (wpAny_bind (wpAny_load ho1 (wpAny_pure (wpAny_pure ?_))))
  refine P_bindL (m := payload (.ref ba)) ?_
  unfold payload payload?
  refine wpAny_bind (wpAny_bind (wpAny_load hb1 (wpAny_pure (wpAny_pure ?_))))
  dsimp only
  subst hn
  refine P_bindL (wpAny_of_eq (si0 b.size) ?_)
  dsimp only
  rw [if_pos (by decide)]
  refine P_bindL (wpAny_rule ?_)
  have e2 : ∀ c : Array UInt8, c = #[] → c.extract 0 (0 : Int).toNat ++ b ++ c.extract (max (0 : Int) 0).toNat c.size = b := fun c hc => by subst hc; simp
  have fin : ∀ {Post : Fin → Shared → Prop} {E' : Value → Shared → Prop}, (∀ h2, h2.get? ba = some (baObj b) → (∀ a o, a ≠ ba → hp.get? a = some o → h2.get? a = some o) → Post (.done (.ret .none)) ⟨h2, g, d, tk, os⟩) → wpP (model prog w) A.in1 (do
      write (.ref ba) fun b' => b'.extract 0 (0 : Int).toNat ++ b ++ b'.extract (max (0 : Int) 0).toNat b'.size
      ret Value.none) Post E' ⟨h1, g, d, tk, os⟩ := by
    intro Post E' hP
    refine P_bindL (m := updateBytearray ba _) ?_
    unfold updateBytearray
    refine wpAny_bind (wpAny_load hb1 ?_)
    dsimp only
    generalize hf : (fun b' : Array UInt8 => b'.extract 0 (0 : Int).toNat ++ b ++ b'.extract (max (0 : Int) 0).toNat b'.size) = f
    have hf0 : f #[] = b := by rw [← hf]; exact e2 _ rfl
    have hs2 : Heap.SameBut ba h1 (h1.update ba (Obj.mapBytearray f)) := Heap.SameBut.update ..
    have ho2 : (h1.update ba (Obj.mapBytearray f)).get? ba = some (baObj b) := by
      have := Heap.get?_update_self (Obj.mapBytearray f) hb1 (by show Obj.isFreed (baObj (f #[])) = false; rfl)
      rw [this]; show some (baObj (f #[])) = _; rw [hf0]
    refine wpAny_bind (wpAny_update hb1 (wpAny_lookBehind ho2 (past_ba hz) (P_pure ?_)))
    exact hP _ ho2 fun a o ne e => (hs2.2 a ne).trans (keep1 a o e)
  split
  · refine P_bind ?_
    unfold checkResize
    have hgA : A.in1.guards = some [] := hg
    refine P_bind ?_
    show wpP _ _ (exported (.ref ba) >>= fun b => _) _ _ _
    refine P_bind (P_exported hgA ?_)
    show wpP _ _ (exportsOf (.ref ba) >>= fun b => _) _ _ _
    refine P_bindL (wpAny_bind (wpAny_load hb1 (wpAny_pure ?_)))
    refine P_pure ?_
    rw [if_neg (by decide)]
    refine P_pure ?_
    refine fin fun h2 a1 a2 => ?_
    refine P_pure ?_
    exact P_pure (h h2 a1 a2)
  · refine fin fun h2 a1 a2 => ?_
    refine P_pure ?_
    exact P_pure (h h2 a1 a2)
end
end Mine

end
local macro_rules | `(tactic| walk_at "zz") => `(tactic| fail)
section
open PySem PySem.W PyProof.Rows PySem.Calls Builtin Builtin.Bytes
open PySem.F
open Sem (wp)
set_option linter.deprecated false
namespace Mine
section
variable {prog : Program} {w : World} {A : Around} {E : Value → Shared → Prop} {s : Shared}
theorem slot_bal : Slot "bytearray" "__len__" "bytearray.__len__" := Slot.of (T := "bytearray") (name := "__len__") (owner := "bytearray") (n := "__len__") (by rw [typeLookup_type, builtinLookup_eq_fast]; kernel_rfl) (by decide +kernel) (by decide +kernel) (by decide +kernel)
    (.inl (by decide +kernel)) (by rw [isSubtype_type]; kernel_rfl)
theorem entry_bal : entryFor table "bytearray.__len__" = some Builtin.«bytearray.__len__» := entryFor_of_tree (by kernel_rfl)
theorem args_bal (a : Value) : argsOk "bytearray.__len__" ⟨[a], []⟩ := by unfold argsOk; kernel_rfl
theorem len_ba {l : Addr} {b : Array UInt8} {Q : Value → Shared → Prop} (hl : s.heap.get? l = some (baObj b)) (hz : b.size ≤ 1000)
    (h : Q (.int b.size (s.toks + 1)) { s with toks := s.toks + 1 + 1 }) : wpAny (model prog w) A (call (.builtin "len") [.ref l]) Q E s := by
  have hT : s.TypeIs (.ref l) "bytearray" := ⟨_, hl, rfl⟩
  refine call_function_entry kind_len plain_len entry_len (args_len1 _) ?_
  unfold Builtin.«len»
  refine wpAny_bind (m := oneArg "len" _) (wpAny_pure ?_)
  refine wpAny_bind (m := callSpecial? (.ref l) (Str.ofString "__len__")) (wpAny_callSpecial?_slot (name := Str.ofString "__len__") hT slot_bal
    (wpAny_call_entry slot_bal hT entry_bal ?_ (args_bal _)))
  show wpAny _ _ (do retInt (← payload (.ref l)).size) _ _ s
  unfold payload payload?
  refine wpAny_bind (wpAny_bind (wpAny_bind (wpAny_load hl (wpAny_pure (wpAny_pure ?_)))))
  refine wpAny_bind (wpAny_mkInt (wpAny_pure ⟨_, rfl, ?_⟩))
  refine wpAny_bind (wpAny_holding (wpAny_pure ?_))
  refine wpAny_bind (wpAny_letGo ?_)
  show wpAny _ _ (if ((b.size : Nat) : Int) < 0 then _ else _) _ _ _
  rw [if_neg (by omega)]
  show wpAny _ _ (if ((b.size : Nat) : Int) ≥ 2 ^ 63 then _ else _) _ _ _
  rw [if_neg (by omega)]
  exact wpAny_bind (wpAny_mkInt (wpAny_pure ⟨_, rfl, h⟩))
end
end Mine

end
local macro_rules | `(tactic| walk_at "zz") => `(tactic| fail)
section
open PySem PySem.W PyProof.Rows PySem.Calls
open Sem (wp)
namespace Mine
local macro_rules | `(tactic| k_room) => `(tactic| (simp only [depth_under_make, depth_under_kw, depth_in1, depth_deeper, depth_caller, aup_depth, alow_depth]; decide))
local macro_rules | `(tactic| k_all) => `(tactic| assumption)
section
variable {M : Model} {A : Around} {E : Value → Shared → Prop} {s : Shared} {env : Env}
theorem exec_Assign_Sub (o i pos' value pos) (hs : swapsWith value (some (.Subscript o i pos')) pos.line env = pure false) : exec (.Assign [.Subscript o i pos'] value pos) env =
    (do standAt pos; let v ← eval value env; assign (.Subscript o i pos') env v; pure .next) := by
  have e : exec (.Assign [.Subscript o i pos'] value pos) env = (do
      standAt pos
      if ← swapsWith value (some (.Subscript o i pos')) pos.line env then
        evalThenUse value env (assign (.Subscript o i pos') env)
        return .next
      let v ← eval value env
      assign (.Subscript o i pos') env v
      pure .next) := rfl
  rw [e, hs]; rfl
theorem P_Assign_Sub {o : Expr} {lo hi : Option Expr} {ps pos' pos : Pos} {value : Expr} {Q : Flow → Shared → Prop}
    (h : wpAny M A (eval value env) (fun v s₁ => wpAny M A (eval o env) (fun ov s₂ => wpAny M A (eval (.Slice lo hi none ps) env) (fun iv s₃ => wpP M A (setItem ov iv v) (fun _ => Q .next) E s₃) E s₂) E s₁) E s)
    (hs : swapsWith value (some (.Subscript o (.Slice lo hi none ps) pos')) pos.line env = pure false := by rfl) : wpP M A (exec (.Assign [.Subscript o (.Slice lo hi none ps) pos'] value pos) env) Q E s := by
  rw [exec_Assign_Sub o _ pos' value pos hs]
  refine P_bindL (wpAny_standAt (P_bindL (wpAny_mono h (fun v s₁ h₁ => ?_) fun _ _ x => x)))
  refine P_bind ?_
  show wpP M A (do
    let ov ← holding [v] (eval o env)
    let iv ← holding [v, ov] (eval (.Slice lo hi none ps) env)
    standAt pos'
    holding [v, ov, iv] (setItem ov iv v)
    release [iv, v, ov] []) _ _ _
  refine P_bindL (wpAny_holding (wpAny_mono h₁ (fun ov s₂ h₂ => P_bindL (wpAny_holding (wpAny_mono h₂ (fun iv s₃ h₃ => P_bindL (wpAny_standAt (P_bind (P_holding (P_mono h₃ (fun _ s₄ h₄ => ?_) fun _ _ x => x))))) fun _ _ x => x))) fun _ _ x => x))
  exact P_lift fun Γ p hΓ => by rw [Sem.wp_release]; exact P_pure h₄
end
theorem ba_set {g h h2 : Heap} {L bb : Addr} {m : Str → Option Value} {tl : List (Addr × Obj)} {o o' ox : Obj} (F : Fr g L h m) (N : News g L h ((bb, o) :: tl)) (hne : ∀ q ∈ tl, q.1 ≠ bb)
    (h1 : h2.get? bb = some o') (hk : ∀ a x, a ≠ bb → (h.push ox).get? a = some x → h2.get? a = some x) : Fr g L h2 m ∧ News g L h2 ((bb, o') :: tl) := by
  have z := N _ (.head _)
  have k : ∀ a x, a ≠ bb → h.get? a = some x → h2.get? a = some x := fun a x ne e => hk a x ne (Heap.get?_push_of_some _ e)
  obtain ⟨oL, es, ep, hL, r⟩ := F.ns
  refine ⟨⟨⟨oL, es, ep, k L oL (Ne.symm z.2.1) hL, r⟩, fun b x e => k b x (fun q => ?_) (F.keep b x e), F.above⟩, fun p hp => ?_⟩
  · have := z.2.2; rw [← q, e] at this; cases this
  · rcases List.mem_cons.mp hp with rfl | hp
    · exact ⟨h1, z.2⟩
    · have y := N p (.tail _ hp)
      exact ⟨k _ _ (hne p hp) y.1, y.2⟩
local macro_rules | `(tactic| walk_at "call type:type") => `(tactic| (k_here; (with_reducible show wpAny _ _ (call (Value.type "type") [Value.bytes _ _]) _ _ _); k_dflt (refine call_type_of (Tx := "bytes") rfl (by decide) ?_)))
theorem lenba_K {w : World} {prog : Program} {A : Around} {E : Value → Shared → Prop} {s : Shared} {h₀ : Heap} {L l : Addr} {news : List (Addr × Obj)} {b : Array UInt8} {Q : Value → Shared → Prop}
    (N : News h₀ L s.heap news) (hm : (l, baObj b) ∈ news) (hz : b.size ≤ 1000) (h : Q (.int b.size (s.toks + 1)) { s with toks := s.toks + 1 + 1 }) : wpAny (model prog w) A (call (.builtin "len") [.ref l]) Q E s :=
  len_ba (N _ hm).1 hz h
local macro_rules | `(tactic| walk_at "call builtin:len") => `(tactic| (k_here; (with_reducible show wpAny _ _ (call (Value.builtin "len") [Value.ref _]) _ _ _); k_dflt (refine' lenba_K ?k1 ?k2 ?k3 ?_; (case k1 => k_asm); (case k2 => k_mem); (case k3 => first | assumption | decide); k_whole)))
set_option maxHeartbeats 8000000 in
theorem write_P : ∀ (w : World) (p : Program) (loose : List Str) (mean : ExcName → Option Value) (mg mb : Str → Option Value) (A₀ : Around) (base h₀ : Heap) (L a : Addr) (m : Str → Option Value) (cn : Str) (cs : Scope) (ccd : Value) (outer : List Env) (news : List (Addr × Obj)) (s : Shared) (R : Result → Shared → Prop)
    (bb bx bd : Addr) (t₁ t₂ t₃ : Tok) (b : Array UInt8) (bt : Tok),
    Below A₀ base outer h₀ → Fr h₀ L s.heap m → (KF w.params).In h₀ → News h₀ L s.heap ((bb, baObj #[]) :: (bx, instObj 519 bd) :: (bd, bioDict w.params t₁ t₂ t₃ bb 0) :: news) → Top p loose mean mg mb h₀ →
    (∀ q ∈ news, q.1 ≠ bd) → (∀ q ∈ news, q.1 ≠ bb) → bd < bx → bx < bb → 1 ≤ b.size → b.size ≤ 1000 →
    (∀ t₄ tn h' tk, Fr h₀ L h' m → News h₀ L h' ((bb, baObj b) :: (bx, instObj 519 bd) :: (bd, bioDict w.params t₁ t₂ t₄ bb (0 + b.size)) :: news) → R (.ok (.ret (.int b.size tn))) { s with heap := h', toks := tk }) →
    codeP (model PySem.Challenge.rw_vn0026_01.prog w) (Aup (envOf cn (mkSc cs) L a ccd :: outer)) (.call (.ref 502) ⟨[.ref bx, .bytes b bt], []⟩) R s := by
  k_fill
  w_on
  intro w p loose mean mg mb A₀ base h₀ L a m cn cs ccd outer news s R bb bx bd t₁ t₂ t₃ b bt B F X₀ N T hd hb l1 l2 hb1 hb2 hR
  k_lt2 l1
  k_lt2 l2
  obtain ⟨hh, g, d, t, os⟩ := s
  refine' code_defP ?k1 ?k2 ?k3 ?k4 ?k5 ?kA ?kK ?k6 ?k7 ?k8 ?k9 ?kB ?_ ?c2 ?c3 ?c4 ?c5; (case kA => exact rfl); (case kK => exact rfl); (case k1 => k_asm); (case k2 => k_asm); (case k3 => k_asm); (case k4 => k_asm); (case k5 => k_asm); (case k6 => k_is); (case k7 => k_is); (case k8 => k_room); (case k9 => first | exact BindsTo.of_eq rfl | exact binds_K (by k_in) rfl (by k_is) rfl rfl rfl); (case c5 => decide); (case kB => exact locs rfl); (case c2 => exact rfl); (case c3 => exact rfl); (case c4 => exact rfl)
  k_whole
  intro g' L' h' tk' FG' F' N' B' X' T'
  (try dsimp only)
  (try k_fold)
  dsimp only [bioDict] at N'
  refine P_execs_lift ?_
  k_steps
  (try dsimp only)
  refine P_execs_lift ?_
  k_steps
  (try dsimp only)
  refine P_execs_lift ?_
  k_steps
  (try dsimp only)
  refine P_execs_lift ?_
  k_steps
  · exfalso; omega
  (try dsimp only)
  refine P_execs_lift ?_
  k_steps
  (try dsimp only)
  refine P_execs_lift ?_
  k_steps
  (try dsimp only)
  refine P_execs_lift ?_
  k_steps
  (try dsimp only)
  refine P_execs_cons (P_Assign_Sub ?_ (by with_unfolding_all rfl))
  k_steps
  rename Fr g' L' _ _ => F4
  rename News g' L' _ _ => N4
  dsimp only at F4 N4 ⊢
  refine setitem_P rfl hb2 (by omega) (Heap.get?_push_of_some _ (N4 _ (.head _)).1) (Heap.get?_push_size _ rfl) fun h2 a1 a2 => ?_
  obtain ⟨F5, N5⟩ := ba_set F4 N4 (List.forall_mem_cons.mpr ⟨Nat.ne_of_lt l2, List.forall_mem_cons.mpr ⟨Nat.ne_of_lt (Nat.lt_trans l1 l2), hb⟩⟩) a1 a2
  clear F4 N4 a1 a2
  dsimp only
  refine P_lift ?_
  k_steps
  rename Fr h₀ L _ m => F9
  rename News h₀ L _ _ => N9
  exact hR _ _ _ _ F9 N9
end Mine

end
local macro_rules | `(tactic| walk_at "zz") => `(tactic| fail)
local macro_rules | `(tactic| walk_at "zz") => `(tactic| fail)
local macro_rules | `(tactic| walk_at "zz") => `(tactic| fail)
section
open PySem PySem.W PyProof.Rows PySem.Calls
open Sem (wp)
namespace Mine
local macro_rules | `(tactic| x_close) => `(tactic| (exact $(Lean.mkIdent `hQ) _ _))
theorem bytes_ba (w : World) (A : Around) (s : Shared) (X : (KF w.params).In s.heap) (l : Addr) (b : Array UInt8) (ho : s.heap.get? l = some { cls := .type "bytearray", dict := none, data := .bytearray b 0, slots := #[] }) (hz : b.size ≤ 1000) (Q : Value → Shared → Prop) (E : Value → Shared → Prop)
  (hQ : ∀ t tk, Q (.bytes b t) { s with toks := tk }) : wpAny (model PW w) A (call (.type "bytes") [.ref l]) Q E s := by
  x_run
theorem bytesba_K {w : World} {A : Around} {E : Value → Shared → Prop} {s : Shared} {h₀ : Heap} {L l : Addr} {m : Str → Option Value} {news : List (Addr × Obj)} {b : Array UInt8} {Q : Value → Shared → Prop}
    (F : Fr h₀ L s.heap m) (X : (KF w.params).In h₀) (N : News h₀ L s.heap news) (hm : (l, baObj b) ∈ news) (hz : b.size ≤ 1000) (h : ∀ t tk, Q (.bytes b t) { s with toks := tk }) : wpAny (model PW w) A (call (.type "bytes") [.ref l]) Q E s :=
  bytes_ba w A s (X.keeps F.keep) l b (N _ hm).1 hz Q E h
local macro_rules | `(tactic| k_room) => `(tactic| (simp only [depth_under_make, depth_under_kw, depth_in1, depth_deeper, depth_caller, aup_depth, alow_depth]; decide))
local macro_rules | `(tactic| walk_at "call type:bytes") => `(tactic| (k_here; (with_reducible show wpAny _ _ (call (Value.type "bytes") [Value.ref _]) _ _ _); k_dflt (refine' bytesba_K ?k1 ?k2 ?k3 ?k4 ?k5 ?_; (case k1 => k_asm); (case k2 => k_asm); (case k3 => k_asm); (case k4 => k_mem); (case k5 => assumption); k_whole; intro t' tk')))
set_option maxHeartbeats 8000000 in
theorem getvalue_A : ∀ (w : World) (p : Program) (loose : List Str) (mean : ExcName → Option Value) (mg mb : Str → Option Value) (A₀ : Around) (base h₀ : Heap) (L a : Addr) (m : Str → Option Value) (cn : Str) (cs : Scope) (ccd : Value) (outer : List Env) (news : List (Addr × Obj)) (s : Shared) (Q E : Value → Shared → Prop)
    (bb bx bd : Addr) (t₁ t₂ t₃ : Tok) (n : Int) (b : Array UInt8),
    Below A₀ base outer h₀ → Fr h₀ L s.heap m → (KF w.params).In h₀ → News h₀ L s.heap ((bb, baObj b) :: (bx, instObj 519 bd) :: (bd, bioDict w.params t₁ t₂ t₃ bb n) :: news) → Top p loose mean mg mb h₀ → b.size ≤ 1000 →
    (∀ t h' tk, Fr h₀ L h' m → News h₀ L h' ((bb, baObj b) :: (bx, instObj 519 bd) :: (bd, bioDict w.params t₁ t₂ t₃ bb n) :: news) → Q (.bytes b t) { s with heap := h', toks := tk }) →
    wpAny (model PySem.Challenge.rw_vn0026_01.prog w) (Aup (envOf cn (mkSc cs) L a ccd :: outer)) (call (.ref 405) [.ref bx]) Q E s := by
  k_fill
  w_on
  intro w p loose mean mg mb A₀ base h₀ L a m cn cs ccd outer news s Q E bb bx bd t₁ t₂ t₃ n b B F X₀ N T hz hQ
  obtain ⟨hh, g, d, t, os⟩ := s
  dsimp only [bioDict] at N
  k_steps
  rename Fr h₀ L _ m => F9
  rename News h₀ L _ _ => N9
  exact hQ _ _ _ F9 N9
end Mine

end
local macro_rules | `(tactic| walk_at "zz") => `(tactic| fail)
local macro_rules | `(tactic| walk_at "zz") => `(tactic| fail)
section
open PySem PySem.W PyProof.Rows PySem.Calls Builtin Builtin.Bytes Builtin.Struct
open Sem (wp)
namespace Mine
/-- The octets of n, the highest first, s of them. -/
def beL (s n : Nat) : List UInt8 := (List.range s).reverse.map fun k => (n / 256 ^ k % 256).toUInt8
theorem intBytes_be (s : Nat) (v : Int) : intBytes true s v = (beL s (v % 2 ^ (8 * s)).toNat).toArray := by
  simp [intBytes, Memoryview.toLittleEndian, beL, List.map_reverse]
theorem intBytes_le (v : Int) : intBytes false 1 v = (beL 1 (v % 2 ^ (8 * 1)).toNat).toArray := by
  simp [intBytes, Memoryview.toLittleEndian, beL]
theorem bind_left {α β : Type} {x y : Sem α} {f : α → Sem β} {z : Sem β} (h : x = y) (h2 : (y >>= f) = z) : (x >>= f) = z := h ▸ h2
theorem mf_B (t1 : Tok) : moduleFormat (.str "B" t1) = pure ⟨false, true, [⟨'B', 1, 0, 1⟩], 1, 1⟩ := by kernel_rfl
theorem sp_B (v : Int) (t1 t2 t3 : Tok) (h : 0 ≤ v) (h2 : v ≤ 255) : Builtin.«_struct.pack» ⟨[.str "B" t1, .int v t3], []⟩ = (do ret (← mkBytes (beL 1 (v % 2 ^ (8 * 1)).toNat).toArray)) := by
  unfold «_struct.pack»
  show (do Struct.packed "_struct.pack" "pack" (← moduleFormat (.str "B" t1)) [.int v t3]) = _
  rw [mf_B]
  show Struct.packed "_struct.pack" "pack" ⟨false, true, [⟨'B', 1, 0, 1⟩], 1, 1⟩ [.int v t3] = _
  unfold Struct.packed packEach
  simp [Std.Legacy.Range.forIn_eq_forIn_range', List.range']
  rw [if_neg (by decide)]
  refine bind_left (y := pure (intBytes false 1 v)) ?_ ?_
  · conv =>
      lhs
      whnf
    exact if_neg (c := (decide (v < 0) || decide (v > 255)) = true) (by simp; omega)
  rw [pure_bind, intBytes_le]
  refine congrArg (fun x => mkBytes x >>= fun y => ret y) ?_
  with_unfolding_all kernel_rfl
theorem mf_b (t1 : Tok) : moduleFormat (.str "b" t1) = pure ⟨false, true, [⟨'b', 1, 0, 1⟩], 1, 1⟩ := by kernel_rfl
theorem sp_b (v : Int) (t1 t2 t3 : Tok) (h : -128 ≤ v) (h2 : v ≤ 127) : Builtin.«_struct.pack» ⟨[.str "b" t1, .int v t3], []⟩ = (do ret (← mkBytes (beL 1 (v % 2 ^ (8 * 1)).toNat).toArray)) := by
  unfold «_struct.pack»
  show (do Struct.packed "_struct.pack" "pack" (← moduleFormat (.str "b" t1)) [.int v t3]) = _
  rw [mf_b]
  show Struct.packed "_struct.pack" "pack" ⟨false, true, [⟨'b', 1, 0, 1⟩], 1, 1⟩ [.int v t3] = _
  unfold Struct.packed packEach
  simp [Std.Legacy.Range.forIn_eq_forIn_range', List.range']
  rw [if_neg (by decide)]
  refine bind_left (y := pure (intBytes false 1 v)) ?_ ?_
  · conv =>
      lhs
      whnf
    exact if_neg (c := (decide (v < -128) || decide (v > 127)) = true) (by simp; omega)
  rw [pure_bind, intBytes_le]
  refine congrArg (fun x => mkBytes x >>= fun y => ret y) ?_
  with_unfolding_all kernel_rfl
theorem mf_BB (t1 : Tok) : moduleFormat (.str "BB" t1) = pure ⟨false, true, [⟨'B', 1, 0, 1⟩, ⟨'B', 1, 1, 1⟩], 2, 2⟩ := by kernel_rfl
theorem sp_BB (v : Int) (t1 t2 t3 : Tok) (h : 0 ≤ v) (h2 : v ≤ 255) : Builtin.«_struct.pack» ⟨[.str "BB" t1, .int 204 t2, .int v t3], []⟩ = (do ret (← mkBytes (204 :: beL 1 (v % 2 ^ (8 * 1)).toNat).toArray)) := by
  unfold «_struct.pack»
  show (do Struct.packed "_struct.pack" "pack" (← moduleFormat (.str "BB" t1)) [.int 204 t2, .int v t3]) = _
  rw [mf_BB]
  show Struct.packed "_struct.pack" "pack" ⟨false, true, [⟨'B', 1, 0, 1⟩, ⟨'B', 1, 1, 1⟩], 2, 2⟩ [.int 204 t2, .int v t3] = _
  unfold Struct.packed packEach
  simp [Std.Legacy.Range.forIn_eq_forIn_range', List.range']
  rw [if_neg (by decide)]
  refine bind_left (y := pure (intBytes false 1 204)) rfl ?_
  rw [pure_bind]
  refine bind_left (y := pure (intBytes false 1 v)) ?_ ?_
  · conv =>
      lhs
      whnf
    exact if_neg (c := (decide (v < 0) || decide (v > 255)) = true) (by simp; omega)
  rw [pure_bind, intBytes_le]
  refine congrArg (fun x => mkBytes x >>= fun y => ret y) ?_
  with_unfolding_all kernel_rfl
theorem mf_gBb (t1 : Tok) : moduleFormat (.str ">Bb" t1) = pure ⟨true, false, [⟨'B', 1, 0, 1⟩, ⟨'b', 1, 1, 1⟩], 2, 2⟩ := by kernel_rfl
theorem sp_gBb (v : Int) (t1 t2 t3 : Tok) (h : -128 ≤ v) (h2 : v ≤ 127) : Builtin.«_struct.pack» ⟨[.str ">Bb" t1, .int 208 t2, .int v t3], []⟩ = (do ret (← mkBytes (208 :: beL 1 (v % 2 ^ (8 * 1)).toNat).toArray)) := by
  unfold «_struct.pack»
  show (do Struct.packed "_struct.pack" "pack" (← moduleFormat (.str ">Bb" t1)) [.int 208 t2, .int v t3]) = _
  rw [mf_gBb]
  show Struct.packed "_struct.pack" "pack" ⟨true, false, [⟨'B', 1, 0, 1⟩, ⟨'b', 1, 1, 1⟩], 2, 2⟩ [.int 208 t2, .int v t3] = _
  unfold Struct.packed packEach
  simp [Std.Legacy.Range.forIn_eq_forIn_range', List.range']
  rw [if_neg (by decide)]
  refine bind_left (y := pure (intBytes true 1 208)) rfl ?_
  rw [pure_bind]
  refine bind_left (y := pure (intBytes true 1 v)) ?_ ?_
  · conv =>
      lhs
      whnf
    exact if_neg (c := (decide (v < -128) || decide (v > 127)) = true) (by simp; omega)
  rw [pure_bind, intBytes_be]
  refine congrArg (fun x => mkBytes x >>= fun y => ret y) ?_
  with_unfolding_all kernel_rfl
theorem mf_gBH (t1 : Tok) : moduleFormat (.str ">BH" t1) = pure ⟨true, false, [⟨'B', 1, 0, 1⟩, ⟨'H', 1, 1, 2⟩], 3, 2⟩ := by kernel_rfl
theorem sp_gBH (v : Int) (t1 t2 t3 : Tok) (h : 0 ≤ v) (h2 : v ≤ 65535) : Builtin.«_struct.pack» ⟨[.str ">BH" t1, .int 205 t2, .int v t3], []⟩ = (do ret (← mkBytes (205 :: beL 2 (v % 2 ^ (8 * 2)).toNat).toArray)) := by
  unfold «_struct.pack»
  show (do Struct.packed "_struct.pack" "pack" (← moduleFormat (.str ">BH" t1)) [.int 205 t2, .int v t3]) = _
  rw [mf_gBH]
  show Struct.packed "_struct.pack" "pack" ⟨true, false, [⟨'B', 1, 0, 1⟩, ⟨'H', 1, 1, 2⟩], 3, 2⟩ [.int 205 t2, .int v t3] = _
  unfold Struct.packed packEach
  simp [Std.Legacy.Range.forIn_eq_forIn_range', List.range']
  rw [if_neg (by decide)]
  refine bind_left (y := pure (intBytes true 1 205)) rfl ?_
  rw [pure_bind]
  refine bind_left (y := pure (intBytes true 2 v)) ?_ ?_
  · conv =>
      lhs
      whnf
    exact if_neg (c := (decide (v < 0) || decide (v > 65535)) = true) (by simp; omega)
  rw [pure_bind, intBytes_be]
  refine congrArg (fun x => mkBytes x >>= fun y => ret y) ?_
  with_unfolding_all kernel_rfl
theorem mf_gBh (t1 : Tok) : moduleFormat (.str ">Bh" t1) = pure ⟨true, false, [⟨'B', 1, 0, 1⟩, ⟨'h', 1, 1, 2⟩], 3, 2⟩ := by kernel_rfl
theorem sp_gBh (v : Int) (t1 t2 t3 : Tok) (h : -32768 ≤ v) (h2 : v ≤ 32767) : Builtin.«_struct.pack» ⟨[.str ">Bh" t1, .int 209 t2, .int v t3], []⟩ = (do ret (← mkBytes (209 :: beL 2 (v % 2 ^ (8 * 2)).toNat).toArray)) := by
  unfold «_struct.pack»
  show (do Struct.packed "_struct.pack" "pack" (← moduleFormat (.str ">Bh" t1)) [.int 209 t2, .int v t3]) = _
  rw [mf_gBh]
  show Struct.packed "_struct.pack" "pack" ⟨true, false, [⟨'B', 1, 0, 1⟩, ⟨'h', 1, 1, 2⟩], 3, 2⟩ [.int 209 t2, .int v t3] = _
  unfold Struct.packed packEach
  simp [Std.Legacy.Range.forIn_eq_forIn_range', List.range']
  rw [if_neg (by decide)]
  refine bind_left (y := pure (intBytes true 1 209)) rfl ?_
  rw [pure_bind]
  refine bind_left (y := pure (intBytes true 2 v)) ?_ ?_
  · conv =>
      lhs
      whnf
    exact if_neg (c := (decide (v < -32768) || decide (v > 32767)) = true) (by simp; omega)
  rw [pure_bind, intBytes_be]
  refine congrArg (fun x => mkBytes x >>= fun y => ret y) ?_
  with_unfolding_all kernel_rfl
theorem mf_gBI (t1 : Tok) : moduleFormat (.str ">BI" t1) = pure ⟨true, false, [⟨'B', 1, 0, 1⟩, ⟨'I', 1, 1, 4⟩], 5, 2⟩ := by kernel_rfl
theorem sp_gBI (v : Int) (t1 t2 t3 : Tok) (h : 0 ≤ v) (h2 : v ≤ 4294967295) : Builtin.«_struct.pack» ⟨[.str ">BI" t1, .int 206 t2, .int v t3], []⟩ = (do ret (← mkBytes (206 :: beL 4 (v % 2 ^ (8 * 4)).toNat).toArray)) := by
  unfold «_struct.pack»
  show (do Struct.packed "_struct.pack" "pack" (← moduleFormat (.str ">BI" t1)) [.int 206 t2, .int v t3]) = _
  rw [mf_gBI]
  show Struct.packed "_struct.pack" "pack" ⟨true, false, [⟨'B', 1, 0, 1⟩, ⟨'I', 1, 1, 4⟩], 5, 2⟩ [.int 206 t2, .int v t3] = _
  unfold Struct.packed packEach
  simp [Std.Legacy.Range.forIn_eq_forIn_range', List.range']
  rw [if_neg (by decide)]
  refine bind_left (y := pure (intBytes true 1 206)) rfl ?_
  rw [pure_bind]
  refine bind_left (y := pure (intBytes true 4 v)) ?_ ?_
  · conv =>
      lhs
      whnf
    exact if_neg (c := (decide (v < 0) || decide (v > 4294967295)) = true) (by simp; omega)
  rw [pure_bind, intBytes_be]
  refine congrArg (fun x => mkBytes x >>= fun y => ret y) ?_
  with_unfolding_all kernel_rfl
theorem mf_gBi (t1 : Tok) : moduleFormat (.str ">Bi" t1) = pure ⟨true, false, [⟨'B', 1, 0, 1⟩, ⟨'i', 1, 1, 4⟩], 5, 2⟩ := by kernel_rfl
theorem sp_gBi (v : Int) (t1 t2 t3 : Tok) (h : -2147483648 ≤ v) (h2 : v ≤ 2147483647) : Builtin.«_struct.pack» ⟨[.str ">Bi" t1, .int 210 t2, .int v t3], []⟩ = (do ret (← mkBytes (210 :: beL 4 (v % 2 ^ (8 * 4)).toNat).toArray)) := by
  unfold «_struct.pack»
  show (do Struct.packed "_struct.pack" "pack" (← moduleFormat (.str ">Bi" t1)) [.int 210 t2, .int v t3]) = _
  rw [mf_gBi]
  show Struct.packed "_struct.pack" "pack" ⟨true, false, [⟨'B', 1, 0, 1⟩, ⟨'i', 1, 1, 4⟩], 5, 2⟩ [.int 210 t2, .int v t3] = _
  unfold Struct.packed packEach
  simp [Std.Legacy.Range.forIn_eq_forIn_range', List.range']
  rw [if_neg (by decide)]
  refine bind_left (y := pure (intBytes true 1 210)) rfl ?_
  rw [pure_bind]
  refine bind_left (y := pure (intBytes true 4 v)) ?_ ?_
  · conv =>
      lhs
      whnf
    exact if_neg (c := (decide (v < -2147483648) || decide (v > 2147483647)) = true) (by simp; omega)
  rw [pure_bind, intBytes_be]
  refine congrArg (fun x => mkBytes x >>= fun y => ret y) ?_
  with_unfolding_all kernel_rfl
theorem mf_gBQ (t1 : Tok) : moduleFormat (.str ">BQ" t1) = pure ⟨true, false, [⟨'B', 1, 0, 1⟩, ⟨'Q', 1, 1, 8⟩], 9, 2⟩ := by kernel_rfl
theorem sp_gBQ (v : Int) (t1 t2 t3 : Tok) (h : 0 ≤ v) (h2 : v ≤ 18446744073709551615) : Builtin.«_struct.pack» ⟨[.str ">BQ" t1, .int 207 t2, .int v t3], []⟩ = (do ret (← mkBytes (207 :: beL 8 (v % 2 ^ (8 * 8)).toNat).toArray)) := by
  unfold «_struct.pack»
  show (do Struct.packed "_struct.pack" "pack" (← moduleFormat (.str ">BQ" t1)) [.int 207 t2, .int v t3]) = _
  rw [mf_gBQ]
  show Struct.packed "_struct.pack" "pack" ⟨true, false, [⟨'B', 1, 0, 1⟩, ⟨'Q', 1, 1, 8⟩], 9, 2⟩ [.int 207 t2, .int v t3] = _
  unfold Struct.packed packEach
  simp [Std.Legacy.Range.forIn_eq_forIn_range', List.range']
  rw [if_neg (by decide)]
  refine bind_left (y := pure (intBytes true 1 207)) rfl ?_
  rw [pure_bind]
  refine bind_left (y := pure (intBytes true 8 v)) ?_ ?_
  · conv =>
      lhs
      whnf
    exact if_neg (c := (decide (v < 0) || decide (v > 18446744073709551615)) = true) (by simp; omega)
  rw [pure_bind, intBytes_be]
  refine congrArg (fun x => mkBytes x >>= fun y => ret y) ?_
  with_unfolding_all kernel_rfl
theorem mf_gBq (t1 : Tok) : moduleFormat (.str ">Bq" t1) = pure ⟨true, false, [⟨'B', 1, 0, 1⟩, ⟨'q', 1, 1, 8⟩], 9, 2⟩ := by kernel_rfl
theorem sp_gBq (v : Int) (t1 t2 t3 : Tok) (h : -9223372036854775808 ≤ v) (h2 : v ≤ 9223372036854775807) : Builtin.«_struct.pack» ⟨[.str ">Bq" t1, .int 211 t2, .int v t3], []⟩ = (do ret (← mkBytes (211 :: beL 8 (v % 2 ^ (8 * 8)).toNat).toArray)) := by
  unfold «_struct.pack»
  show (do Struct.packed "_struct.pack" "pack" (← moduleFormat (.str ">Bq" t1)) [.int 211 t2, .int v t3]) = _
  rw [mf_gBq]
  show Struct.packed "_struct.pack" "pack" ⟨true, false, [⟨'B', 1, 0, 1⟩, ⟨'q', 1, 1, 8⟩], 9, 2⟩ [.int 211 t2, .int v t3] = _
  unfold Struct.packed packEach
  simp [Std.Legacy.Range.forIn_eq_forIn_range', List.range']
  rw [if_neg (by decide)]
  refine bind_left (y := pure (intBytes true 1 211)) rfl ?_
  rw [pure_bind]
  refine bind_left (y := pure (intBytes true 8 v)) ?_ ?_
  · conv =>
      lhs
      whnf
    exact if_neg (c := (decide (v < -9223372036854775808) || decide (v > 9223372036854775807)) = true) (by simp; omega)
  rw [pure_bind, intBytes_be]
  refine congrArg (fun x => mkBytes x >>= fun y => ret y) ?_
  with_unfolding_all kernel_rfl
end Mine

end
local macro_rules | `(tactic| walk_at "zz") => `(tactic| fail)
section
open PySem PySem.W PyProof.Rows PySem.Calls
open Sem (wp)
namespace Mine
/-- The MessagePack octets of a whole number. -/
def packL (v : Int) : List UInt8 :=
  if 0 ≤ v ∧ v < 128 then beL 1 (v % 2 ^ (8 * 1)).toNat
  else if -32 ≤ v ∧ v < 0 then beL 1 (v % 2 ^ (8 * 1)).toNat
  else if 128 ≤ v ∧ v ≤ 255 then 204 :: beL 1 (v % 2 ^ (8 * 1)).toNat
  else if -128 ≤ v ∧ v < 0 then 208 :: beL 1 (v % 2 ^ (8 * 1)).toNat
  else if 255 < v ∧ v ≤ 65535 then 205 :: beL 2 (v % 2 ^ (8 * 2)).toNat
  else if -32768 ≤ v ∧ v < -128 then 209 :: beL 2 (v % 2 ^ (8 * 2)).toNat
  else if 65535 < v ∧ v ≤ 4294967295 then 206 :: beL 4 (v % 2 ^ (8 * 4)).toNat
  else if -2147483648 ≤ v ∧ v < -32768 then 210 :: beL 4 (v % 2 ^ (8 * 4)).toNat
  else if 4294967295 < v ∧ v ≤ 18446744073709551615 then 207 :: beL 8 (v % 2 ^ (8 * 8)).toNat
  else 211 :: beL 8 (v % 2 ^ (8 * 8)).toNat
abbrev packB (v : Int) : Array UInt8 := (packL v).toArray
theorem beL_length (s n : Nat) : (beL s n).length = s := by simp [beL]
theorem packB_pos (v : Int) : 1 ≤ (packB v).size := by
  unfold packB packL
  (repeat' split) <;> simp [beL_length]
theorem packB_le (v : Int) : (packB v).size ≤ 9 := by
  unfold packB packL
  (repeat' split) <;> simp [beL_length]
theorem kind_sp : builtinKind "_struct.pack" = none := by decide +kernel
theorem plain_sp : plainId "_struct.pack" = true := by decide +kernel
theorem entry_sp : entryFor table "_struct.pack" = some Builtin.«_struct.pack» := entryFor_of_tree (by kernel_rfl)
theorem args_sp2 (a b : Value) : argsOk "_struct.pack" ⟨[a, b], []⟩ := by unfold argsOk; kernel_rfl
theorem args_sp3 (a b c : Value) : argsOk "_struct.pack" ⟨[a, b, c], []⟩ := by unfold argsOk; kernel_rfl
section
variable {prog : Program} {w : World} {A : Around} {E : Value → Shared → Prop} {s : Shared} {Q : Value → Shared → Prop} {v : Int} {t1 t2 t3 : Tok}
theorem sp_of {b : Array UInt8} {args : List Value} (ha : argsOk "_struct.pack" ⟨args, []⟩) (he : Builtin.«_struct.pack» ⟨args, []⟩ = (do ret (← mkBytes b))) (hz : b = packB v) (h : ∀ t tk, Q (.bytes (packB v) t) { s with toks := tk }) :
    wpAny (model prog w) A (call (.builtin "_struct.pack") args) Q E s := by
  subst hz
  refine call_function_entry kind_sp plain_sp entry_sp ha ?_
  rw [he]
  exact wpAny_bind (wpAny_mkBytes (wpAny_pure ⟨_, rfl, h _ _⟩) (Nat.le_trans (packB_le v) (by decide)))
theorem st_B (h1 : 0 ≤ v) (h2 : v < 128) (h : ∀ t tk, Q (.bytes (packB v) t) { s with toks := tk }) : wpAny (model prog w) A (call (.builtin "_struct.pack") [.str "B" t1, .int v t3]) Q E s :=
  sp_of (args_sp2 _ _) (sp_B v t1 t1 t3 (by omega) (by omega)) (by unfold packB packL; rw [if_pos (by omega)]) h
theorem st_b (h1 : -32 ≤ v) (h2 : v < 0) (h : ∀ t tk, Q (.bytes (packB v) t) { s with toks := tk }) : wpAny (model prog w) A (call (.builtin "_struct.pack") [.str "b" t1, .int v t3]) Q E s :=
  sp_of (args_sp2 _ _) (sp_b v t1 t1 t3 (by omega) (by omega)) (by unfold packB packL; rw [if_neg (by omega), if_pos (by omega)]) h
theorem st_BB (h1 : 128 ≤ v) (h2 : v ≤ 255) (h : ∀ t tk, Q (.bytes (packB v) t) { s with toks := tk }) : wpAny (model prog w) A (call (.builtin "_struct.pack") [.str "BB" t1, .int 204 t2, .int v t3]) Q E s :=
  sp_of (args_sp3 _ _ _) (sp_BB v t1 t2 t3 (by omega) (by omega)) (by unfold packB packL; rw [if_neg (by omega), if_neg (by omega), if_pos (by omega)]) h
theorem st_gBb (h1 : -128 ≤ v) (h2 : v < -32) (h : ∀ t tk, Q (.bytes (packB v) t) { s with toks := tk }) : wpAny (model prog w) A (call (.builtin "_struct.pack") [.str ">Bb" t1, .int 208 t2, .int v t3]) Q E s :=
  sp_of (args_sp3 _ _ _) (sp_gBb v t1 t2 t3 (by omega) (by omega)) (by unfold packB packL; rw [if_neg (by omega), if_neg (by omega), if_neg (by omega), if_pos (by omega)]) h
theorem st_gBH (h1 : 255 < v) (h2 : v ≤ 65535) (h : ∀ t tk, Q (.bytes (packB v) t) { s with toks := tk }) : wpAny (model prog w) A (call (.builtin "_struct.pack") [.str ">BH" t1, .int 205 t2, .int v t3]) Q E s :=
  sp_of (args_sp3 _ _ _) (sp_gBH v t1 t2 t3 (by omega) (by omega)) (by unfold packB packL; rw [if_neg (by omega), if_neg (by omega), if_neg (by omega), if_neg (by omega), if_pos (by omega)]) h
theorem st_gBh (h1 : -32768 ≤ v) (h2 : v < -128) (h : ∀ t tk, Q (.bytes (packB v) t) { s with toks := tk }) : wpAny (model prog w) A (call (.builtin "_struct.pack") [.str ">Bh" t1, .int 209 t2, .int v t3]) Q E s :=
  sp_of (args_sp3 _ _ _) (sp_gBh v t1 t2 t3 (by omega) (by omega)) (by unfold packB packL; rw [if_neg (by omega), if_neg (by omega), if_neg (by omega), if_neg (by omega), if_neg (by omega), if_pos (by omega)]) h
theorem st_gBI (h1 : 65535 < v) (h2 : v ≤ 4294967295) (h : ∀ t tk, Q (.bytes (packB v) t) { s with toks := tk }) : wpAny (model prog w) A (call (.builtin "_struct.pack") [.str ">BI" t1, .int 206 t2, .int v t3]) Q E s :=
  sp_of (args_sp3 _ _ _) (sp_gBI v t1 t2 t3 (by omega) (by omega)) (by unfold packB packL; rw [if_neg (by omega), if_neg (by omega), if_neg (by omega), if_neg (by omega), if_neg (by omega), if_neg (by omega), if_pos (by omega)]) h
theorem st_gBi (h1 : -2147483648 ≤ v) (h2 : v < -32768) (h : ∀ t tk, Q (.bytes (packB v) t) { s with toks := tk }) : wpAny (model prog w) A (call (.builtin "_struct.pack") [.str ">Bi" t1, .int 210 t2, .int v t3]) Q E s :=
  sp_of (args_sp3 _ _ _) (sp_gBi v t1 t2 t3 (by omega) (by omega)) (by unfold packB packL; rw [if_neg (by omega), if_neg (by omega), if_neg (by omega), if_neg (by omega), if_neg (by omega), if_neg (by omega), if_neg (by omega), if_pos (by omega)]) h
theorem st_gBQ (h1 : 4294967295 < v) (h2 : v ≤ 18446744073709551615) (h : ∀ t tk, Q (.bytes (packB v) t) { s with toks := tk }) : wpAny (model prog w) A (call (.builtin "_struct.pack") [.str ">BQ" t1, .int 207 t2, .int v t3]) Q E s :=
  sp_of (args_sp3 _ _ _) (sp_gBQ v t1 t2 t3 (by omega) (by omega)) (by unfold packB packL; rw [if_neg (by omega), if_neg (by omega), if_neg (by omega), if_neg (by omega), if_neg (by omega), if_neg (by omega), if_neg (by omega), if_neg (by omega), if_pos (by omega)]) h
theorem st_gBq (h1 : -9223372036854775808 ≤ v) (h2 : v < -2147483648) (h : ∀ t tk, Q (.bytes (packB v) t) { s with toks := tk }) : wpAny (model prog w) A (call (.builtin "_struct.pack") [.str ">Bq" t1, .int 211 t2, .int v t3]) Q E s :=
  sp_of (args_sp3 _ _ _) (sp_gBq v t1 t2 t3 (by omega) (by omega)) (by unfold packB packL; rw [if_neg (by omega), if_neg (by omega), if_neg (by omega), if_neg (by omega), if_neg (by omega), if_neg (by omega), if_neg (by omega), if_neg (by omega), if_neg (by omega)]) h
end
def Amid (l : List Env) : Around := { depth := 390, frames := some l, guards := some [], units := 450 }
theorem amid_depth (l : List Env) : (Amid l).depth = 390 := rfl
end Mine

end
local macro_rules | `(tactic| walk_at "zz") => `(tactic| fail)
section
open PySem PySem.W PyProof.Rows PySem.Calls
open Sem (wp)
namespace Mine
local macro_rules | `(tactic| k_room) => `(tactic| (simp only [depth_under_make, depth_under_kw, depth_in1, depth_deeper, depth_caller, aup_depth, alow_depth, amid_depth]; decide))
local macro_rules | `(tactic| walk_at "call builtin:_struct.pack") => `(tactic| (k_here; k_dflt ((first | refine st_B ?_ ?_ ?_ | refine st_b ?_ ?_ ?_ | refine st_BB ?_ ?_ ?_ | refine st_gBb ?_ ?_ ?_ | refine st_gBH ?_ ?_ ?_ | refine st_gBh ?_ ?_ ?_ | refine st_gBI ?_ ?_ ?_ | refine st_gBi ?_ ?_ ?_ | refine st_gBQ ?_ ?_ ?_ | refine st_gBq ?_ ?_ ?_) <;> first | (intro t' tk') | omega)))
theorem P_If0 {M : Model} {A : Around} {E : Value → Shared → Prop} {s : Shared} {env : Env} {test : Expr} {body rest : List Stmt} {pos : Pos} {Q : Flow → Shared → Prop}
    (h : wpAny M A (isTrue test env (eval test env)) (fun b s₁ => if b then wpP M A (execs body env) (fun f s' => match f with | .next => wpP M A (execs rest env) Q E s' | f => Q f s') E s₁ else wpP M A (execs rest env) Q E s₁) E s) :
    wpP M A (execs (.If test body [] pos :: rest) env) Q E s := by
  refine P_execs_cons (P_If (wpAny_mono h (fun b s₁ h₁ => ?_) fun _ _ x => x))
  cases b with
  | false => exact P_execs_nil h₁
  | true => exact h₁
theorem P_Meth {M : Model} {A : Around} {E : Value → Shared → Prop} {s : Shared} {env : Env} {o : Expr} {name : Str} {apos pos : Pos} {args : List Expr} {pl : Sem Bool} {Q : Value → Shared → Prop}
    (hb : attributeBase o name env (eval o env) = eval o env)
    (h : wpAny M A (eval o env) (fun ov s₁ => wpAny M A (getMethod ov name pl) (fun fx s₂ => wpP M A (callWith pos fx.1 fx.2 (backTo pos (starEach args env)) []) Q E s₂) E s₁) E s)
    (he : eval (.Call (.Attribute o name apos) args [] pos) env = (do
      let ov ← attributeBase o name env (eval o env)
      standAt apos.atName
      let (f, first) ← holding [ov] (getMethod ov name pl)
      callWith pos f first (backTo pos (starEach args env)) [])) :
    wpP M A (eval (.Call (.Attribute o name apos) args [] pos) env) Q E s := P_MethodCall (by rw [hb]; exact P_lift h) he
theorem P_callArgs {w : World} {prog : Program} {A : Around} {E : Value → Shared → Prop} {s : Shared} {env : Env} {K : Frag} {pos : Pos} {f : Value} {first : List Value} {e : Expr} {rest : List Expr} {Q : Value → Shared → Prop} (hk : keepIn K f = true)
    (h : wpAny (model prog w) A (spliced (backTo pos (starEach (e :: rest) env))) (fun vs s₁ => K.In s₁.heap ∧ wpP (model prog w) A (call f (first ++ vs)) Q E s₁) E s)
    (he : starEach (e :: rest) env = (false, eval e env) :: starEach rest env := by rfl) (hplain : (backTo pos (starEach rest env)).any (·.1) = false := by rfl) :
    wpP (model prog w) A (callWith pos f first (backTo pos (starEach (e :: rest) env)) []) Q E s := by
  rw [he] at h ⊢
  refine P_callWith (by show (false || (backTo pos (starEach rest env)).any (·.1)) = false; rw [hplain]; rfl) (evalArgs_plain (wpAny_mono h (fun vs s₁ h₁ => ?_) fun _ _ x => x))
  obtain ⟨k, a, b⟩ := looks_keep (M := model prog w) hk h₁.1
  exact ⟨⟨k, b⟩, h₁.2⟩
theorem keep502 (P : Params) : keepIn (KF P) (.ref 502) = true := by kernel_rfl
theorem write_P' (w : World) {p : Program} {loose : List Str} {mean : ExcName → Option Value} {mg mb : Str → Option Value} {A₀ : Around} {base h₀ : Heap} {L a : Addr} {m : Str → Option Value} {cn : Str} {cs : Scope} {ccd : Value} {outer : List Env} {news : List (Addr × Obj)} {s : Shared} {R : Result → Shared → Prop}
    {bb bx bd : Addr} {t₁ t₂ t₃ : Tok} {b : Array UInt8} {bt : Tok} (hk : cs.kind = .function)
    (B : Below A₀ base outer h₀) (F : Fr h₀ L s.heap m) (X : (KF w.params).In h₀) (N : News h₀ L s.heap ((bb, baObj #[]) :: (bx, instObj 519 bd) :: (bd, bioDict w.params t₁ t₂ t₃ bb 0) :: news)) (T : Top p loose mean mg mb h₀)
    (hd : ∀ q ∈ news, q.1 ≠ bd) (hb : ∀ q ∈ news, q.1 ≠ bb) (l1 : bd < bx) (l2 : bx < bb) (h1 : 1 ≤ b.size) (h2 : b.size ≤ 1000)
    (h : ∀ t₄ tn h' tk, Fr h₀ L h' m → News h₀ L h' ((bb, baObj b) :: (bx, instObj 519 bd) :: (bd, bioDict w.params t₁ t₂ t₄ bb (0 + b.size)) :: news) → R (.ok (.ret (.int b.size tn))) { s with heap := h', toks := tk }) :
    codeP (model PySem.Challenge.rw_vn0026_01.prog w) (Aup (envOf cn cs L a ccd :: outer)) (.call (.ref 502) ⟨[.ref bx, .bytes b bt], []⟩) R s := by
  have z := write_P w p loose mean mg mb A₀ base h₀ L a m cn cs ccd outer news s R bb bx bd t₁ t₂ t₃ b bt B F X N T hd hb l1 l2 h1 h2 h
  rw [mkSc_eq hk] at z
  exact z
theorem news_drop {h₀ h : Heap} {L : Addr} {a b : Addr × Obj} {tl : List (Addr × Obj)} (N : News h₀ L h (a :: b :: tl)) : News h₀ L h tl := fun q hq => N q (.tail _ (.tail _ hq))
set_option maxHeartbeats 8000000 in
theorem pack1_P : ∀ (w : World) (p : Program) (loose : List Str) (mean : ExcName → Option Value) (mg mb : Str → Option Value) (A₀ : Around) (base h₀ : Heap) (L a : Addr) (m : Str → Option Value) (cn : Str) (cs : Scope) (ccd : Value) (outer : List Env) (news : List (Addr × Obj)) (s : Shared) (R : Result → Shared → Prop)
    (bb bx bd x dx : Addr) (t₁ t₂ t₃ t₄ t₅ t₆ t₇ t₈ t₉ t₁₀ t₁₁ : Tok) (v : Int) (tv : Tok),
    Below A₀ base outer h₀ → Fr h₀ L s.heap m → (KF w.params).In h₀ → News h₀ L s.heap ((bb, baObj #[]) :: (bx, instObj 519 bd) :: (bd, bioDict w.params t₁ t₂ t₃ bb 0) :: (x, instObj 879 dx) :: (dx, pkDict w.params t₄ t₅ t₆ t₇ t₈ t₉ t₁₀ t₁₁ bx) :: news) → Top p loose mean mg mb h₀ →
    (∀ q ∈ news, q.1 < dx) → dx < x → x < bd → bd < bx → bx < bb → -9223372036854775808 ≤ v → v ≤ 18446744073709551615 →
    (∀ t₁₂ tn h' tk, Fr h₀ L h' m → News h₀ L h' ((bb, baObj (packB v)) :: (bx, instObj 519 bd) :: (bd, bioDict w.params t₁ t₂ t₁₂ bb (0 + (packB v).size)) :: (x, instObj 879 dx) :: (dx, pkDict w.params t₄ t₅ t₆ t₇ t₈ t₉ t₁₀ t₁₁ bx) :: news) → R (.ok (.ret (.int (packB v).size tn))) { s with heap := h', toks := tk }) →
    codeP (model PySem.Challenge.rw_vn0026_01.prog w) (Amid (envOf cn (mkSc cs) L a ccd :: outer)) (.call (.ref 791) ⟨[.ref x, .int v tv], []⟩) R s := by
  k_fill
  w_on
  intro w p loose mean mg mb A₀ base h₀ L a m cn cs ccd outer news s R bb bx bd x dx t₁ t₂ t₃ t₄ t₅ t₆ t₇ t₈ t₉ t₁₀ t₁₁ v tv B F X₀ N T hl l1 l2 l3 l4 hv1 hv2 hR
  k_lt2 l1
  k_lt2 l2
  k_lt2 l3
  k_lt2 l4
  obtain ⟨hh, g, d, t, os⟩ := s
  refine' code_defP ?k1 ?k2 ?k3 ?k4 ?k5 ?kA ?kK ?k6 ?k7 ?k8 ?k9 ?kB ?_ ?c2 ?c3 ?c4 ?c5; (case kA => exact rfl); (case kK => exact rfl); (case k1 => k_asm); (case k2 => k_asm); (case k3 => k_asm); (case k4 => k_asm); (case k5 => k_asm); (case k6 => k_is); (case k7 => k_is); (case k8 => k_room); (case k9 => first | exact BindsTo.of_eq rfl | exact binds_K (by k_in) rfl (by k_is) rfl rfl rfl); (case c5 => decide); (case kB => exact locs rfl); (case c2 => exact rfl); (case c3 => exact rfl); (case c4 => exact rfl)
  k_whole
  intro g' L' h' tk' FG' F' N' B' X' T'
  (try dsimp only)
  (try k_fold)
  dsimp only [bioDict, pkDict] at N'
  refine P_execs_lift ?_
  k_steps
  (try dsimp only)
  refine P_execs_lift ?_
  k_steps
  (try dsimp only)
  refine P_execs_lift ?_
  k_steps
  (try dsimp only)
  refine P_execs_cons (P_While (codeP_while1 ?_))
  k_steps
  refine P_execs_lift ?_
  k_steps
  (try dsimp only)
  refine P_execs_lift ?_
  k_steps
  (try dsimp only)
  refine P_execs_lift ?_
  k_steps
  (try dsimp only)
  refine P_execs_cons (P_If ?_)
  k_steps
  (try dsimp only)
  have hc : (0 ≤ v ∧ v < 128) ∨ (-32 ≤ v ∧ v < 0) ∨ (128 ≤ v ∧ v ≤ 255) ∨ (-128 ≤ v ∧ v < -32) ∨ (255 < v ∧ v ≤ 65535) ∨ (-32768 ≤ v ∧ v < -128) ∨ (65535 < v ∧ v ≤ 4294967295) ∨ (-2147483648 ≤ v ∧ v < -32768) ∨ (4294967295 < v ∧ v ≤ 18446744073709551615) ∨ (-9223372036854775808 ≤ v ∧ v < -2147483648) := by omega
  rcases hc with ⟨c1, c2⟩ | ⟨c1, c2⟩ | ⟨c1, c2⟩ | ⟨c1, c2⟩ | ⟨c1, c2⟩ | ⟨c1, c2⟩ | ⟨c1, c2⟩ | ⟨c1, c2⟩ | ⟨c1, c2⟩ | ⟨c1, c2⟩
  all_goals clear hv1 hv2
  all_goals
    repeat (refine P_If0 ?_; k_steps; (try dsimp only))
    refine P_execs_cons (P_Return (P_Meth rfl ?_ (by with_unfolding_all rfl)))
    k_steps
    refine P_callArgs (K := KF w.params) (keep502 w.params) ?_
    k_steps
    rename Fr g' L' _ _ => F4
    rename News g' L' _ _ => N4
    dsimp only at F4 N4 ⊢
    refine P_call (codeP_up (write_P' w rfl (by k_asm) F4 (by k_asm) (news_drop N4) (by k_asm) (fun q hq => ?_) (fun q hq => ?_) l3 l4 (packB_pos v) (Nat.le_trans (packB_le v) (by decide)) fun t₄ tn h4 tk4 F5 N5 => ?_) rfl)
    · rcases List.mem_cons.mp hq with rfl | hq
      · exact Nat.ne_of_lt l2
      rcases List.mem_cons.mp hq with rfl | hq
      · exact Nat.ne_of_lt (Nat.lt_trans l1 l2)
      · exact Nat.ne_of_lt (Nat.lt_trans (hl q hq) (Nat.lt_trans l1 l2))
    · rcases List.mem_cons.mp hq with rfl | hq
      · exact Nat.ne_of_lt (Nat.lt_trans l2 (Nat.lt_trans l3 l4))
      rcases List.mem_cons.mp hq with rfl | hq
      · exact Nat.ne_of_lt (Nat.lt_trans (Nat.lt_trans l1 l2) (Nat.lt_trans l3 l4))
      · exact Nat.ne_of_lt (Nat.lt_trans (Nat.lt_trans (hl q hq) (Nat.lt_trans l1 l2)) (Nat.lt_trans l3 l4))
    dsimp only
    k_steps
    rename Fr h₀ L _ m => F9
    rename News h₀ L _ _ => N9
    exact hR _ _ _ _ F9 N9
theorem pack1_P' (w : World) {p : Program} {loose : List Str} {mean : ExcName → Option Value} {mg mb : Str → Option Value} {A₀ : Around} {base h₀ : Heap} {L a : Addr} {m : Str → Option Value} {cn : Str} {cs : Scope} {ccd : Value} {outer : List Env} {news : List (Addr × Obj)} {s : Shared} {R : Result → Shared → Prop}
    {bb bx bd x dx : Addr} {t₁ t₂ t₃ t₄ t₅ t₆ t₇ t₈ t₉ t₁₀ t₁₁ : Tok} {v : Int} {tv : Tok} (hk : cs.kind = .function)
    (B : Below A₀ base outer h₀) (F : Fr h₀ L s.heap m) (X : (KF w.params).In h₀) (N : News h₀ L s.heap ((bb, baObj #[]) :: (bx, instObj 519 bd) :: (bd, bioDict w.params t₁ t₂ t₃ bb 0) :: (x, instObj 879 dx) :: (dx, pkDict w.params t₄ t₅ t₆ t₇ t₈ t₉ t₁₀ t₁₁ bx) :: news)) (T : Top p loose mean mg mb h₀)
    (hl : ∀ q ∈ news, q.1 < dx) (l1 : dx < x) (l2 : x < bd) (l3 : bd < bx) (l4 : bx < bb) (h1 : -9223372036854775808 ≤ v) (h2 : v ≤ 18446744073709551615)
    (h : ∀ t₁₂ tn h' tk, Fr h₀ L h' m → News h₀ L h' ((bb, baObj (packB v)) :: (bx, instObj 519 bd) :: (bd, bioDict w.params t₁ t₂ t₁₂ bb (0 + (packB v).size)) :: (x, instObj 879 dx) :: (dx, pkDict w.params t₄ t₅ t₆ t₇ t₈ t₉ t₁₀ t₁₁ bx) :: news) → R (.ok (.ret (.int (packB v).size tn))) { s with heap := h', toks := tk }) :
    codeP (model PySem.Challenge.rw_vn0026_01.prog w) (Amid (envOf cn cs L a ccd :: outer)) (.call (.ref 791) ⟨[.ref x, .int v tv], []⟩) R s := by
  have z := pack1_P w p loose mean mg mb A₀ base h₀ L a m cn cs ccd outer news s R bb bx bd x dx t₁ t₂ t₃ t₄ t₅ t₆ t₇ t₈ t₉ t₁₀ t₁₁ v tv B F X N T hl l1 l2 l3 l4 h1 h2 h
  rw [mkSc_eq hk] at z
  exact z
end Mine

end
local macro_rules | `(tactic| walk_at "zz") => `(tactic| fail)
local macro_rules | `(tactic| walk_at "zz") => `(tactic| fail)
section
open PySem PySem.W PyProof.Rows PySem.Calls
open Sem (wp)
namespace Mine
local macro_rules | `(tactic| k_room) => `(tactic| (simp only [depth_under_make, depth_under_kw, depth_in1, depth_deeper, depth_caller, aup_depth, alow_depth, amid_depth]; decide))
local macro_rules | `(tactic| walk_at "call type:bytes") => `(tactic| (k_here; (with_reducible show wpAny _ _ (call (Value.type "bytes") [Value.ref _]) _ _ _); k_dflt (refine' bytesba_K ?k1 ?k2 ?k3 ?k4 ?k5 ?_; (case k1 => k_asm); (case k2 => k_asm); (case k3 => k_asm); (case k4 => k_mem); (case k5 => exact Nat.le_trans (packB_le _) (by decide)); k_whole; intro t' tk')))
theorem codeP_upA {M : Model} {A : Around} {s : Shared} {l : List Env} {A' : Around} {c : Code} {R : Result → Shared → Prop} (h : codeP M A' c R s) (hf : A.frames = some l) (hf' : A'.frames = some l := by rfl) (hg : A.guards = A'.guards := by rfl) (hh : A.handled = A'.handled := by rfl) (hd : A.depth ≤ A'.depth := by exact Nat.le_of_ble_eq_true rfl) (hu : A.units ≤ A'.units := by exact Nat.le_of_ble_eq_true rfl) : codeP M A c R s :=
  fun Γ p hc hΓ hcl => h Γ p hc ⟨hΓ.1.trans hh, Nat.le_trans hΓ.2.1 hd, fun x e => hΓ.2.2.1 x (hf.trans (hf'.symm.trans e)), fun g e => hΓ.2.2.2.1 g (hg.trans e), Nat.le_trans hΓ.2.2.2.2 hu⟩ hcl
theorem keep791 (P : Params) : keepIn (KF P) (.ref 791) = true := by kernel_rfl
set_option maxHeartbeats 8000000 in
theorem pack_P : ∀ (w : World) (p : Program) (loose : List Str) (mean : ExcName → Option Value) (mg mb : Str → Option Value) (A₀ : Around) (base h₀ : Heap) (L a : Addr) (m : Str → Option Value) (cn : Str) (cs : Scope) (ccd : Value) (outer : List Env) (news : List (Addr × Obj)) (s : Shared) (R : Result → Shared → Prop)
    (bb bx bd x dx : Addr) (t₁ t₂ t₃ t₄ t₅ t₆ t₇ t₈ t₉ t₁₀ t₁₁ : Tok) (v : Int) (tv : Tok),
    Below A₀ base outer h₀ → Fr h₀ L s.heap m → (KF w.params).In h₀ → News h₀ L s.heap ((bb, baObj #[]) :: (bx, instObj 519 bd) :: (bd, bioDict w.params t₁ t₂ t₃ bb 0) :: (x, instObj 879 dx) :: (dx, pkDict w.params t₄ t₅ t₆ t₇ t₈ t₉ t₁₀ t₁₁ bx) :: news) → Top p loose mean mg mb h₀ →
    (∀ q ∈ news, q.1 < dx) → dx < x → x < bd → bd < bx → bx < bb → -9223372036854775808 ≤ v → v ≤ 18446744073709551615 →
    (∀ tn h' tk, Fr h₀ L h' m → News h₀ L h' news → R (.ok (.ret (.bytes (packB v) tn))) { s with heap := h', toks := tk }) →
    codeP (model PySem.Challenge.rw_vn0026_01.prog w) (Alow (envOf cn (mkSc cs) L a ccd :: outer)) (.call (.ref 798) ⟨[.ref x, .int v tv], []⟩) R s := by
  k_fill
  w_on
  intro w p loose mean mg mb A₀ base h₀ L a m cn cs ccd outer news s R bb bx bd x dx t₁ t₂ t₃ t₄ t₅ t₆ t₇ t₈ t₉ t₁₀ t₁₁ v tv B F X₀ N T hl l1 l2 l3 l4 hv1 hv2 hR
  k_lt2 l1
  k_lt2 l2
  k_lt2 l3
  k_lt2 l4
  obtain ⟨hh, g, d, t, os⟩ := s
  refine' code_defP ?k1 ?k2 ?k3 ?k4 ?k5 ?kA ?kK ?k6 ?k7 ?k8 ?k9 ?kB ?_ ?c2 ?c3 ?c4 ?c5; (case kA => exact rfl); (case kK => exact rfl); (case k1 => k_asm); (case k2 => k_asm); (case k3 => k_asm); (case k4 => k_asm); (case k5 => k_asm); (case k6 => k_is); (case k7 => k_is); (case k8 => k_room); (case k9 => first | exact BindsTo.of_eq rfl | exact binds_K (by k_in) rfl (by k_is) rfl rfl rfl); (case c5 => decide); (case kB => exact locs rfl); (case c2 => exact rfl); (case c3 => exact rfl); (case c4 => exact rfl)
  k_whole
  intro g' L' h' tk' FG' F' N' B' X' T'
  (try dsimp only)
  (try k_fold)
  refine P_execs_cons (P_Try (final := []) (P_execs_cons (P_Expr (P_Meth rfl ?_ (by with_unfolding_all rfl)) rfl (by with_unfolding_all rfl))))
  k_steps
  refine P_callArgs (K := KF w.params) (keep791 w.params) ?_
  k_steps
  rename Fr g' L' _ _ => F4
  rename News g' L' _ _ => N4
  dsimp only at F4 N4 ⊢
  refine P_call (codeP_upA (pack1_P' w rfl (by k_asm) F4 (by k_asm) N4 (by k_asm) hl l1 l2 l3 l4 hv1 hv2 fun t₁₂ tn h4 tk4 F5 N5 => ?_) rfl)
  dsimp only
  refine P_execs_nil ?_
  dsimp only
  refine P_execs_nil ?_
  dsimp only
  dsimp only [bioDict, pkDict] at N5
  refine P_If0 ?_
  k_steps
  (try dsimp only)
  refine P_execs_lift ?_
  k_steps
  (try dsimp only)
  refine P_execs_cons (P_Assign_Attr (P_CallName ?_) (by with_unfolding_all rfl))
  k_steps
  refine P_callWith rfl (evalArgs_nil3 ⟨⟨_, Looks.of_peek (by k_in) (keep519 _ _)⟩, P_call (codeP_up (bio_P' w rfl (by k_asm) (by k_asm) (by k_asm) (by k_asm) (by k_asm) fun bx' bd' bb' t1' t2' t3' h3 tk3 F3 N3 l3' l4' l5 => ?_) rfl)⟩)
  dsimp only
  simp only [AllLt] at l3'
  k_lt2 l4'
  k_lt2 l5
  k_steps
  dsimp only
  refine P_lift ?_
  k_steps
  rename Fr h₀ L _ m => F9
  rename News h₀ L _ _ => N9
  exact hR _ _ _ F9 fun q hq => N9 q (by repeat (first | exact hq | apply List.mem_cons_of_mem))
theorem pack_P' (w : World) {p : Program} {loose : List Str} {mean : ExcName → Option Value} {mg mb : Str → Option Value} {A₀ : Around} {base h₀ : Heap} {L a : Addr} {m : Str → Option Value} {cn : Str} {cs : Scope} {ccd : Value} {outer : List Env} {news : List (Addr × Obj)} {s : Shared} {R : Result → Shared → Prop}
    {bb bx bd x dx : Addr} {t₁ t₂ t₃ t₄ t₅ t₆ t₇ t₈ t₉ t₁₀ t₁₁ : Tok} {v : Int} {tv : Tok} (hk : cs.kind = .function)
    (B : Below A₀ base outer h₀) (F : Fr h₀ L s.heap m) (X : (KF w.params).In h₀) (N : News h₀ L s.heap ((bb, baObj #[]) :: (bx, instObj 519 bd) :: (bd, bioDict w.params t₁ t₂ t₃ bb 0) :: (x, instObj 879 dx) :: (dx, pkDict w.params t₄ t₅ t₆ t₇ t₈ t₉ t₁₀ t₁₁ bx) :: news)) (T : Top p loose mean mg mb h₀)
    (hl : ∀ q ∈ news, q.1 < dx) (l1 : dx < x) (l2 : x < bd) (l3 : bd < bx) (l4 : bx < bb) (h1 : -9223372036854775808 ≤ v) (h2 : v ≤ 18446744073709551615)
    (h : ∀ tn h' tk, Fr h₀ L h' m → News h₀ L h' news → R (.ok (.ret (.bytes (packB v) tn))) { s with heap := h', toks := tk }) :
    codeP (model PySem.Challenge.rw_vn0026_01.prog w) (Alow (envOf cn cs L a ccd :: outer)) (.call (.ref 798) ⟨[.ref x, .int v tv], []⟩) R s := by
  have z := pack_P w p loose mean mg mb A₀ base h₀ L a m cn cs ccd outer news s R bb bx bd x dx t₁ t₂ t₃ t₄ t₅ t₆ t₇ t₈ t₉ t₁₀ t₁₁ v tv B F X N T hl l1 l2 l3 l4 h1 h2 h
  rw [mkSc_eq hk] at z
  exact z
theorem packer_P' (w : World) {p : Program} {loose : List Str} {mean : ExcName → Option Value} {mg mb : Str → Option Value} {A₀ : Around} {base h₀ : Heap} {L a : Addr} {m : Str → Option Value} {cn : Str} {cs : Scope} {ccd : Value} {outer : List Env} {news : List (Addr × Obj)} {s : Shared} {R : Result → Shared → Prop} (hk : cs.kind = .function)
    (B : Below A₀ base outer h₀) (F : Fr h₀ L s.heap m) (X : (KF w.params).In h₀) (N : News h₀ L s.heap news) (T : Top p loose mean mg mb h₀)
    (h : ∀ x dx bx bd bb t₁ t₂ t₃ t₄ t₅ t₆ t₇ t₈ t₉ t₁₀ t₁₁ h' tk, Fr h₀ L h' m → News h₀ L h' ((bb, baObj #[]) :: (bx, instObj 519 bd) :: (bd, bioDict w.params t₁ t₂ t₃ bb 0) :: (x, instObj 879 dx) :: (dx, pkDict w.params t₄ t₅ t₆ t₇ t₈ t₉ t₁₀ t₁₁ bx) :: news) →
      AllLt dx news → dx < x → x < bd → bd < bx → bx < bb → R (.ok (.ret (.ref x))) { s with heap := h', toks := tk }) :
    codeP (model PySem.Challenge.rw_vn0026_01.prog w) (Alow (envOf cn cs L a ccd :: outer)) (.call (.ref 879) ⟨[], []⟩) R s := by
  have z := packer_P w p loose mean mg mb A₀ base h₀ L a m cn cs ccd outer news s R B F X N T h
  rw [mkSc_eq hk] at z
  exact z
end Mine

end
local macro_rules | `(tactic| walk_at "zz") => `(tactic| fail)
local macro_rules | `(tactic| walk_at "zz") => `(tactic| fail)
section
open PySem PySem.W PyProof.Rows PySem.Calls PyProof.Rows.LCg
open Sem (wp)
namespace Mine
theorem P_callArgP {M : Model} {A : Around} {E : Value → Shared → Prop} {s : Shared} {env : Env} {pos : Pos} {f : Value} {first : List Value} {e : Expr} {Q : Value → Shared → Prop}
    (h : wpP M A (eval e env) (fun v s₁ => (∃ k, Looks M s₁.heap (keeperOf f) k) ∧ wpP M A (call f (first ++ [v]) []) Q E s₁) E s)
    (he : starEach [e] env = [(false, eval e env)] := by rfl) :
    wpP M A (callWith pos f first (backTo pos (starEach [e] env)) []) Q E s := by
  rw [he]
  unfold callWith
  have ev : wpP M A (evalArgs f true (backTo pos [(false, eval e env)]) []) (fun a s₁ => (∃ k, Looks M s₁.heap (keeperOf f) k) ∧ wpP M A (call f (first ++ a.pos) a.kw) Q E s₁) E s := by
    unfold evalArgs
    show wpP M A (spliced [(false, eval e env)] >>= _) _ E s
    refine P_bind ?_
    show wpP M A (do
      let v ← eval e env
      let here ← (pure [v] : Sem (List Value))
      return here ++ (← holding here (spliced []))) _ E s
    refine P_bind (P_mono h (fun v s₁ h₁ => ?_) fun _ _ x => x)
    refine P_lift (wpAny_bind (wpAny_pure (wpAny_bind (wpAny_holding (wpAny_pure (wpAny_pure ?_))))))
    refine P_lift (wpAny_bind (wpAny_pure ?_))
    refine wpAny_holding ?_
    exact wpAny_bind (wpAny_pure (wpAny_bind (wpAny_pure (wpAny_pure h₁))))
  refine P_bind (P_holding (P_mono ev (fun a s₁ h₁ => P_bindL (wpAny_standAt ?_)) fun _ _ x => x))
  obtain ⟨⟨k, hk⟩, h₁⟩ := h₁
  have tail : ∀ {t : Sem Value}, wpP M A t Q E s₁ → wpP M A (t >>= fun r => holding [r] point >>= fun _ => pure r) Q E s₁ :=
    fun ht => P_bind (P_mono ht (fun r s₂ hr => P_lift (wpAny_bind (wpAny_holding (wpAny_point (wpAny_pure hr))))) fun _ _ x => x)
  have hstar : (backTo pos [(false, eval e env)]).any (·.1) = false := rfl
  simp only [hstar, List.any_nil, Bool.or_false]
  refine P_bindL (hk.here ?_)
  cases k
  all_goals dsimp only
  all_goals first
    | exact tail h₁
    | exact tail (P_operate h₁)
    | (split <;> first | exact tail h₁ | exact tail (P_keep h₁))
    | exact tail (P_keep h₁)
theorem allLt_mem {d : Addr} : ∀ {l : List (Addr × Obj)}, AllLt d l → ∀ p ∈ l, p.1 < d
  | [], _, _, h => nomatch h
  | _ :: _, x, p, h => by
    rcases List.mem_cons.mp h with rfl | h
    · exact x.1
    · exact allLt_mem x.2 p h
end Mine

end
local macro_rules | `(tactic| walk_at "zz") => `(tactic| fail)
section
open PySem PySem.W PyProof.Rows PySem.Calls PyProof.Rows.LCg
open Sem (wp)
namespace Mine
/-- The parts of the statement packed = sorted([...]). -/
def s3Comp : Expr := match lawBody.getD 2 (.Pass ⟨0, 0, 0, 0⟩) with | .Assign _ (.Call _ [c] _ _) _ => c | _ => .Constant .none 0 ⟨0, 0, 0, 0⟩
def s3Elt : Expr := match s3Comp with | .ListComp e _ _ _ => e | _ => .Constant .none 0 ⟨0, 0, 0, 0⟩
def s3Sc : Scope := match s3Comp with | .ListComp _ _ sc _ => sc | _ => default
theorem P_attrCall {M : Model} {A : Around} {E : Value → Shared → Prop} {s : Shared} {env : Env} {x : Str} {p p' : Pos} {attr : Str} {whole : Sem Value} {Q : Value → Shared → Prop} (h : wpP M A whole Q E s)
    (he : attributeBase (.Call (.Name x p) [] [] p') attr env whole = whole) : wpP M A (attributeBase (.Call (.Name x p) [] [] p') attr env whole) Q E s := by
  rw [he]
  exact h
local macro_rules | `(tactic| k_room) => `(tactic| (simp only [depth_under_make, depth_under_kw, depth_in1, depth_deeper, depth_caller, aup_depth, alow_depth, amid_depth]; decide))
theorem keep798 (P : Params) : keepIn (KF P) (.ref 798) = true := by kernel_rfl
set_option maxHeartbeats 4000000 in
theorem s3_elt : ∀ (w : World) (p : Program) (loose : List Str) (mean : ExcName → Option Value) (mg mb : Str → Option Value) (fa : Addr) (cd : Value) (base h₀ : Heap) (L : Addr) (m m₂ : Str → Option Value) (s : Shared) (I C D : Addr) (oI oC : Obj) (rest : List (Addr × Obj)) (ys : List Value) (n : Int) (t : Tok) (R : Value → Shared → Prop),
    Below callerA base [] h₀ → Fr h₀ L s.heap m → (KF w.params).In h₀ → News h₀ L s.heap ((I, oI) :: (C, oC) :: (D, lst ys) :: rest) → Top p loose mean mg mb h₀ →
    NsObj oC m₂ → m₂ (sn "value") = some (.int n t) → -9223372036854775808 ≤ n → n ≤ 18446744073709551615 →
    (∀ T h' tk t₁, Fr h₀ L h' m → News h₀ L h' ((T, tupO [.bytes (packB n) t₁, .int n t]) :: (I, oI) :: (C, oC) :: (D, lst ys) :: rest) → T ≠ I → T ≠ C → T ≠ D → R (.ref T) { s with heap := h', toks := tk }) →
    wpP (model PySem.Challenge.rw_vn0026_01.prog w) (lawA L fa cd) (eval s3Elt (compEnvC s3Sc [] C (lawE L fa cd))) R NoE s := by
  k_fill
  w_on
  intro w p loose mean mg mb fa cd base h₀ L m m₂ s I C D oI oC rest ys n t R B F X N T hC hv hn1 hn2 hR
  unfold lawA lawE
  generalize hS : lawSc = sc
  conv at hS => lhs; whnf
  subst hS
  generalize hS : s3Sc = sc
  conv at hS => lhs; whnf
  subst hS
  generalize hb : s3Elt = bd
  conv at hb => lhs; whnf
  subst hb
  obtain ⟨hh, g, d, t0, os⟩ := s
  refine P_Tuple (P_items_cons (P_MethodCall (P_attrCall (P_CallName ?_) (by with_unfolding_all rfl)) (by with_unfolding_all rfl)))
  k_steps
  refine P_callWith rfl (evalArgs_nil3 ⟨⟨_, Looks.of_peek (by k_in) (keep879 _ _)⟩, P_call (codeP_upA (packer_P' w rfl B F X N T fun x dx bx bd bb a1 a2 a3 a4 a5 a6 a7 a8 a9 a10 a11 h1 tk1 F1 N1 l0 l1 l2 l3 l4 => ?_) rfl)⟩)
  have l0' := allLt_mem l0
  k_lt2 l1
  k_lt2 l2
  k_lt2 l3
  k_lt2 l4
  clear F N
  dsimp only at F1 ⊢
  k_steps
  refine P_callArgs (K := KF w.params) (keep798 w.params) ?_
  k_steps
  rename Fr h₀ L _ _ => F4
  rename News h₀ L _ _ => N4
  (try dsimp only at F4 N4 ⊢)
  refine P_call (codeP_upA (pack_P' w rfl B F4 X N4 T l0' l1 l2 l3 l4 hn1 hn2 fun tn h4 tk4 F5 N5 => ?_) rfl)
  dsimp only
  k_steps
  rename Fr h₀ L _ m => F9
  rename News h₀ L _ _ => N9
  dsimp only at F9 N9 ⊢
  have N10 := N9.push F9 (tupO [.bytes (packB n) tn, .int n t])
  exact hR _ _ _ tn (F9.push _) N10 (Nat.ne_of_gt (Heap.lt_size (N9 _ (.head _)).1)) (Nat.ne_of_gt (Heap.lt_size (N9 _ (.tail _ (.head _))).1)) (Nat.ne_of_gt (Heap.lt_size (N9 _ (.tail _ (.tail _ (.head _)))).1))
end Mine

end
local macro_rules | `(tactic| walk_at "zz") => `(tactic| fail)
section
open PySem PySem.W PyProof.Rows PySem.Calls PyProof.Rows.LCg
open Sem (wp)
namespace Mine
abbrev pdP (n : Int) : Dat := .tuple [.bytes (packB n), .int n]
def placeN (v : Int) : Int := if 0 ≤ v then 0 else if -32 ≤ v then 5 else if -128 ≤ v then 1 else if -32768 ≤ v then 2 else if -2147483648 ≤ v then 3 else 4
def prank (v : Int) : Int := placeN v * 1180591620717411303424 + v
def inR (v : Int) : Prop := -9223372036854775808 ≤ v ∧ v ≤ 18446744073709551615
def PackOk (ns : List Int) : Prop := ∀ x ∈ ns, ∀ y ∈ ns, (if packL x = packL y then decide (x < y) else bl (packL x) (packL y)) = decide (prank x < prank y)
theorem dat_pair {news : List (Addr × Obj)} {v : Value} {b : Array UInt8} {n : Int} (h : DatIn news v (.tuple [.bytes b, .int n])) : ∃ a t u k, v = .ref a ∧ (a, ({ cls := .type "tuple", data := .seq #[.bytes b t, .int n u] k } : Obj)) ∈ news := by
  cases h with
  | tuple hm hd =>
    cases hd with
    | cons h1 hd =>
      cases hd with
      | cons h2 hd =>
        cases hd with
        | nil =>
          cases h1 with
          | bytes _ t =>
            cases h2 with
            | int _ u => exact ⟨_, t, u, _, rfl, hm⟩
def pyFst : Dat → Option (Value → Prop)
  | _ => none
section
variable {prog : Program} {w : World} {A : Around} {E : Value → Shared → Prop} {s : Shared} {h₀ : Heap} {L : Addr} {news : List (Addr × Obj)}
theorem pair_firsts {α : Type} {f : α → Array UInt8} {g : α → Int} {h : Heap} (N : News h₀ L h news) : ∀ {xs : List α} {vs : List Value}, DatAll news vs (xs.map fun x => Dat.tuple [.bytes (f x), .int (g x)]) → ∃ fs, KatTups h vs fs ∧ fs.length = xs.length ∧ ∀ v ∈ fs, ∃ b t, v = Value.bytes b t
  | [], _, hd => by cases hd; exact ⟨[], .nil, rfl, fun v hv => nomatch hv⟩
  | x :: r, _, hd => by
    cases hd with
    | cons h1 hd =>
      obtain ⟨fs, k1, k2, k3⟩ := pair_firsts N hd
      obtain ⟨a, t, u, k, rfl, hm⟩ := dat_pair h1
      refine ⟨.bytes (f x) t :: fs, KatTups.cons (N _ hm).1 rfl rfl rfl k1, by rw [List.length_cons, List.length_cons, k2], fun v hv => ?_⟩
      rcases List.mem_cons.mp hv with rfl | hv
      · exact ⟨_, _, rfl⟩
      · exact k3 v hv
theorem kind_pairs {α : Type} {f : α → Array UInt8} {g : α → Int} {xs : List α} {vs : List Value} {C : SortKind → Shared → Prop} (N : News h₀ L s.heap news) (hd : DatAll news vs (xs.map fun x => Dat.tuple [.bytes (f x), .int (g x)])) (hne : 0 < xs.length) (h : C (tuples' true) s) :
    wpAny (model prog w) A (keyKind' vs.toArray) C E s := by
  obtain ⟨fs, k1, k2, k3⟩ := pair_firsts N hd
  refine kat_kind (T := .type "bytes") k1 (by omega) (fun v hv => ?_) rfl h
  obtain ⟨b, t, rfl⟩ := k3 v hv
  exact Looks.of_pure rfl
theorem lt_pair' {x y : Addr} {b c : Array UInt8} {n k : Int} {t u t' u' : Tok} {i j : Nat} {Q : Bool → Shared → Prop} (N : News h₀ L s.heap news) (hx : (x, ({ cls := .type "tuple", data := .seq #[.bytes b t, .int n u] i } : Obj)) ∈ news) (hy : (y, ({ cls := .type "tuple", data := .seq #[.bytes c t', .int k u'] j } : Obj)) ∈ news)
    (h : Q (if b.toList = c.toList then decide (n < k) else bl b.toList c.toList) s) : wpAny (model prog w) A (keyLt' (tuples' true) (.ref x) (.ref y)) Q E s := by
  refine kat_lt (N _ hx).1 rfl (N _ hy).1 rfl ?_
  refine kat_cons (eqBool_bytes ?_)
  by_cases hb : b.toList = c.toList
  · rw [if_pos hb] at h
    rw [decide_eq_true hb]
    refine kat_yes (kat_cons (wpAny_eqBool_int ?_))
    by_cases hn : n = k
    · subst hn
      rw [beq_self_eq_true]
      refine kat_yes (kat_nil ?_)
      rw [decide_eq_false (Int.lt_irrefl _)] at h
      exact h
    · rw [beq_eq_false_iff_ne.mpr hn]
      exact kat_no (kat_one _ _ (PySem.wpAny_lt_int h))
  · rw [if_neg hb] at h
    rw [decide_eq_false hb]
    exact kat_no (oneLt_bytes h)
theorem sorted_pairs {f : Int → Array UInt8} {key : Int → Int} {xs : List Int} {vs : List Value} {l : Addr} {m : Str → Option Value} {Q : Value → Shared → Prop} {nd : List (Addr × Obj)} (F : Fr h₀ L s.heap m) (N : News h₀ L s.heap news) (hsub : ∀ q ∈ nd, q ∈ news) (hl : s.heap.IsList l vs.toArray)
    (hd : DatAll nd vs (xs.map fun x => Dat.tuple [.bytes (f x), .int x])) (h64 : xs.length < 64) (hnd : (xs.map key).Nodup)
    (hok : ∀ x ∈ xs, ∀ y ∈ xs, (if (f x).toList = (f y).toList then decide (x < y) else bl (f x).toList (f y).toList) = decide (key x < key y))
    (h : ∀ D c h' (ws : List Value) (ys : List Int), Fr h₀ L h' m → News h₀ L h' ((D, listOf (List.toArray ws) c) :: news) → (∀ q ∈ news, q.1 < D) → DatAll nd ws (ys.map fun x => Dat.tuple [.bytes (f x), .int x]) → ys.Perm xs → (ys.map key).Pairwise (· < ·) → Q (.ref D) { s with heap := h' }) :
    wpAny (model prog w) A (call (.builtin "sorted") [.ref l]) Q E s := by
  refine sorted_dat (κ := tuples' true) (fun x => Dat.tuple [.bytes (f x), .int x]) key F N hl hd h64 hnd (fun h2 s' C N' hc => ?_) (fun s' C v u x y hx hy N' dx dy hc => ?_) h
  · refine kind_pairs (f := f) (g := fun x => x) N' (hd.mono hsub) ?_ hc
    rw [hd.length, List.length_map] at h2
    omega
  · obtain ⟨a, t, z, k, rfl, ha⟩ := dat_pair (dx.mono hsub)
    obtain ⟨b, t', z', k', rfl, hb⟩ := dat_pair (dy.mono hsub)
    exact lt_pair' N' ha hb (by rw [hok x hx y hy]; exact hc)
end
local macro_rules | `(tactic| k_room) => `(tactic| (simp only [depth_under_make, depth_under_kw, depth_in1, depth_deeper, depth_caller, aup_depth, alow_depth, amid_depth]; decide))
theorem keepSorted {M : Model} {h : Heap} : ∃ k, Looks M h (keeperOf (.builtin "sorted")) k := ⟨_, Looks.of_pure rfl⟩
theorem take_snoc {ns : List Int} {i : Nat} {n : Int} (h : ns[i]? = some n) : ns.take (i + 1) = ns.take i ++ [n] := by rw [List.take_succ, h]; rfl
set_option maxHeartbeats 4000000 in
theorem s3_P : ∀ (w : World) (p : Program) (loose : List Str) (mean : ExcName → Option Value) (mg mb : Str → Option Value) (fa : Addr) (cd : Value) (base h₀ : Heap) (L : Addr) (s : Shared) (Q : Flow → Shared → Prop) (l lv : Addr) (vs : List Value) (ns : List Int) (c : Nat) (num : Option Value),
    Below callerA base [] h₀ → Fr h₀ L s.heap (fun y => if y = sn "number" then num else if y = sn "values" then some (Value.ref lv) else List.lookup y [(sn "script", Value.ref l)]) → (KF w.params).In h₀ → News h₀ L s.heap [(lv, listOf vs.toArray c)] → Top p loose mean mg mb h₀ →
    IntsAre vs ns → ns.length ≤ 8 → (∀ n ∈ ns, inR n) → (ns.map prank).Nodup → PackOk ns →
    (∀ (pk : Addr) (c' : Nat) (h' : Heap) (tk : Nat) (ps : List Value) (P : List Int) (tups : List (Addr × Obj)), Fr h₀ L h' (fun y => if y = sn "packed" then some (Value.ref pk) else if y = sn "number" then num else if y = sn "values" then some (Value.ref lv) else List.lookup y [(sn "script", Value.ref l)]) →
      News h₀ L h' ((pk, listOf (List.toArray ps) c') :: (lv, listOf vs.toArray c) :: tups) → lv < pk → DatAll tups ps (P.map pdP) → P.Perm ns → (P.map prank).Pairwise (· < ·) → Q .next { s with heap := h', toks := tk }) →
    wpP (model PySem.Challenge.rw_vn0026_01.prog w) (lawA L fa cd) (exec (lawBody.getD 2 (.Pass ⟨0, 0, 0, 0⟩)) (lawE L fa cd)) Q NoE s := by
  k_fill
  w_on
  intro w p loose mean mg mb fa cd base h₀ L s Q l lv vs ns c num B F X N T hI h8 hr hnd hok hQ
  have hE := s3_elt w p loose mean mg mb fa cd base h₀ L
  have hlenE : vs.length = ns.length := hI.length
  unfold lawA lawE at *
  generalize hS : lawSc = sc at *
  conv at hS => lhs; whnf
  subst hS
  generalize hS : s3Sc = sc at *
  conv at hS => lhs; whnf
  subst hS
  generalize hb : s3Elt = bd at *
  conv at hb => lhs; whnf
  subst hb
  generalize hb : lawBody.getD 2 (.Pass ⟨0, 0, 0, 0⟩) = bd
  conv at hb => lhs; whnf
  subst hb
  obtain ⟨hh, g, d, t0, os⟩ := s
  refine P_Assign_Name (P_CallName ?_) (by with_unfolding_all rfl)
  k_steps
  refine P_callArgP (blockP (lv := lv) (vs := vs) (c := c) (J := fun i ys tups => DatAll tups ys ((ns.take i).map pdP)) rfl (by decide) (by decide) rfl (by decide) rfl (by k_asm) (by k_asm) (by omega) .nil (fun Q' hq => ?_) ?_ ?_)
  · k_steps
    exact hq
  · intro i v I oI C oC D m₂ h tk ys tups hv hC hm F' N' hJ
    obtain ⟨n, t, rfl, hn⟩ := ints_at hI hv
    have hin := hr n (List.mem_of_getElem? hn)
    refine hE _ m₂ _ I C D oI oC _ ys n t _ B F' X N' T hC hm hin.1 hin.2 fun T₁ h' tk' t₁ F₂ N₂ e1 e2 e3 => ⟨h', tk', T₁, _, rfl, F₂, N₂, e1, e2, e3, ?_⟩
    rw [take_snoc hn, List.map_append]
    exact (hJ.mono fun q hq => .tail _ hq).append (.one (.tuple (vs := [.bytes (packB n) t₁, .int n t]) (.head _) (.cons (.bytes _ _) (.cons (.int _ _) .nil))))
  · intro D h tk ys tups F' N' hd
    rw [hlenE, List.take_length] at hd
    refine ⟨keepSorted, P_lift ?_⟩
    refine sorted_pairs (f := packB) (key := prank) (nd := tups) F' N' (fun q hq => .tail _ (.tail _ hq)) ⟨_, (N' _ (.head _)).1, rfl, _, rfl⟩ hd (by omega) hnd hok fun D' c' h' ws P F₂ N₂ hD hw hp hs => ?_
    have N₃ : News h₀ L h' ((D', listOf (List.toArray ws) c') :: (lv, listOf vs.toArray c) :: tups) := fun q hq => N₂ q (by
      rcases List.mem_cons.mp hq with rfl | hq
      · exact .head _
      · exact .tail _ (.tail _ hq))
    have hlt : lv < D' := hD (lv, listOf vs.toArray c) (.tail _ (.head _))
    clear N₂ N' F' N F
    k_steps
    rename Fr h₀ L _ _ => F9
    rename News h₀ L _ _ => N9
    exact hQ _ _ _ _ _ P _ F9 N9 hlt hw hp hs
end Mine

end
local macro_rules | `(tactic| walk_at "zz") => `(tactic| fail)
section
open PySem PySem.W PyProof.Rows PySem.Calls PyProof.Rows.LCg
namespace Mine
def testsG (ifs : List Expr) (env : Env) : Sem Bool := forIn ifs true fun c r => if r = true then do let ok ← isTrue c env (eval c env); pure (ForInStep.yield ok) else pure (ForInStep.yield r)
section
variable {prog : Program} {w : World} {A : Around} {E : Value → Shared → Prop} {h₀ : Heap} {L : Addr} {m : Str → Option Value} {env : Env}
theorem tests_nil {s : Shared} {Q : Bool → Shared → Prop} (h : Q true s) : wpAny (model prog w) A (testsG [] env) Q E s := wpAny_pure h
theorem tests_one {s : Shared} {c : Expr} {Q : Bool → Shared → Prop} (h : wpAny (model prog w) A (isTrue c env (eval c env)) Q E s) : wpAny (model prog w) A (testsG [c] env) Q E s := wpAny_tests_one h
theorem loopG {elt target iter : Expr} {ifs : List Expr} {scope : Scope} {pos : Pos} {it acc : Value} {R : Result → Shared → Prop} {s : Shared} (I : Nat → Shared → Prop)
    (turn : ∀ n s, I n s → wpAny (model prog w) A (pyNext it) (fun r s₁ => match r with
      | none => R (.ok .next) s₁
      | some v => wpAny (model prog w) A (letOwnedTupleGo target it v) (fun _ s₀ => wpAny (model prog w) A (assign target env v) (fun _ s₂ =>
          wpAny (model prog w) A (testsG ifs env) (fun ok s₃ => if ok = true then wpAny (model prog w) A (eval elt env) (fun x s₄ =>
            wpAny (model prog w) A (call (.builtin "list.append") [acc, x]) (fun _ s₅ => ∃ m, m < n ∧ I m s₅) (notedBy (model prog w) A env fun e s' => R (.error e) s') s₄) (notedBy (model prog w) A env fun e s' => R (.error e) s') s₃
            else ∃ m, m < n ∧ I m s₃) (notedBy (model prog w) A env fun e s' => R (.error e) s') s₂)
          (notedBy (model prog w) A env fun e s' => R (.error e) s') s₀) (notedBy (model prog w) A env fun e s' => R (.error e) s') s₁) (notedBy (model prog w) A env fun e s' => R (.error e) s') s)
    (n : Nat) (h : I n s) : codeAny (model prog w) A (.compLoop (.ListComp elt [⟨target, iter, ifs, 0⟩] scope pos) 0 it acc env) R s := by
  refine codeAny_loop rfl I (fun n s hI => ?_) n h
  show wpAny _ A ((compTurn (.ListComp elt [⟨target, iter, ifs, 0⟩] scope pos) 0 it acc env).onRaise (fun x => do noteFrame x env; theTreesLotGoes x)) _ _ s
  refine wpAny_noted ?_
  rw [compTurn_list]
  refine wpAny_bind (wpAny_standAt (wpAny_bind (wpAny_mono (turn n s hI) (fun r s₁ h₁ => ?_) fun _ _ h' => h')))
  cases r with
  | none => exact wpAny_pure h₁
  | some v =>
    refine wpAny_bind (wpAny_mono h₁ (fun _ s₀ h₀' => ?_) fun _ _ h' => h')
    refine wpAny_bind (wpAny_mono h₀' (fun _ s₂ h₂ => ?_) fun _ _ h' => h')
    refine wpAny_bind (m := testsG ifs env) (wpAny_mono h₂ (fun okb s₃ h₃ => ?_) fun _ _ h' => h')
    cases okb with
    | false => exact wpAny_pure ⟨rfl, h₃⟩
    | true => exact wpAny_bind (wpAny_bind (wpAny_mono h₃ (fun x s₄ h₄ => wpAny_bind (wpAny_mono h₄ (fun _ s₅ h₅ => wpAny_pure (wpAny_pure ⟨rfl, h₅⟩)) fun _ _ h' => h')) fun _ _ h' => h'))
theorem comp_openG {s : Shared} {elt iter target : Expr} {ifs : List Expr} {scope : Scope} {cl : List (Str × Addr)} {pos : Pos} {Q : Value → Shared → Prop}
    (h : wpAny (model prog w) A (eval iter env) (fun x s₁ => wpAny (model prog w) A (pyIter x) (fun it s₂ => wpAny (model prog w) A (newList []) (fun acc s₃ =>
      wpAny (model prog w) A (newFunctionEnv scope env.globals cl [] env.qual none .none (some env)) (fun cenv s₄ =>
        codeAny (model prog w) A (.compStart (.ListComp elt [⟨target, iter, ifs, 0⟩] scope pos) 0 it acc { cenv with scope := relabel scope env }) (compPost (model prog w) A E none Q acc cenv.locals) s₄) E s₃) E s₂) E s₁) E s)
    (hs : ∀ x, foldedSetIterable iter env x = pure x) (hclos : closureFor scope env = pure cl) (hkind : scope.kind = .function) (hnames : ∀ x ∈ scope.names, x.2 = .local → scope.names.lookup x.1 = some .local) :
    wpAny (model prog w) A (eval (.ListComp elt [⟨target, iter, ifs, 0⟩] scope pos) env) Q E s := by
  rw [eval_ListComp]
  exact wpAny_comprehension_free (use := none) rfl hs hclos hkind hnames h
set_option maxHeartbeats 1000000 in
/-- A comprehension over a list in the ledger, with any target and tests. -/
theorem compGR {elt iter target : Expr} {ifs : List Expr} {scope : Scope} {cl : List (Str × Addr)} {pos : Pos} {s : Shared} {src : Addr} {vs : List Value} {c : Nat} {base : List (Addr × Obj)} {p : Nat → Bool} {View : Nat → (Str → Option Value) → Prop} {J : Nat → List Value → List (Addr × Obj) → Prop} {RR : Value → Addr → Result → Shared → Prop}
    (hh : A.handled = none) (hcell : ∀ y ∈ scope.names, y.2 ≠ .cell) (hkind : scope.kind = .function)
    (F : Fr h₀ L s.heap m) (N : News h₀ L s.heap base) (hm : (src, listOf vs.toArray c) ∈ base) (hsz : vs.length ≤ 8) (J0 : J 0 [] base)
    (hgo : ∀ I i h tk v (Q' : Unit → Shared → Prop) (E' : Value → Shared → Prop), h.IsListIter I src i → vs[i - 1]? = some v → Q' () { s with heap := h, toks := tk } → wpAny (model prog w) A (letOwnedTupleGo target (.ref I) v) Q' E' { s with heap := h, toks := tk })
    (hassign : ∀ i v C h tk m' (Q' : Unit → Shared → Prop) (E' : Value → Shared → Prop), vs[i]? = some v → h.Ns C m' → News h₀ L h base →
      (∀ h' tk' m'', h'.Ns C m'' → View i m'' → (∀ b o, b ≠ C → h.get? b = some o → h'.get? b = some o) → Q' () { s with heap := h', toks := tk' }) →
      wpAny (model prog w) A (assign target (compEnvC scope cl C env) v) Q' E' { s with heap := h, toks := tk })
    (htest : ∀ i C oC h tk m₂ (Q' : Bool → Shared → Prop) (E' : Value → Shared → Prop), i < vs.length → NsObj oC m₂ → View i m₂ → Fr h₀ L h m → News h₀ L h ((C, oC) :: base) → (∀ tk', Q' (p i) { s with heap := h, toks := tk' }) →
      wpAny (model prog w) A (testsG ifs (compEnvC scope cl C env)) Q' E' { s with heap := h, toks := tk })
    (helt : ∀ i I oI C oC D h tk m₂ ys tups (Q' : Value → Shared → Prop) (E' : Value → Shared → Prop), i < vs.length → p i = true → NsObj oC m₂ → View i m₂ → Fr h₀ L h m → News h₀ L h ((I, oI) :: (C, oC) :: (D, lst ys) :: tups) → J i ys tups → (∀ q ∈ base, q ∈ tups) →
      (∀ y h' tk' new, Fr h₀ L h' m → News h₀ L h' ((I, oI) :: (C, oC) :: (D, lst ys) :: (new ++ tups)) → (∀ q ∈ new, q.1 ≠ I ∧ q.1 ≠ C ∧ q.1 ≠ D) → J (i + 1) (ys ++ [y]) (new ++ tups) → Q' y { s with heap := h', toks := tk' }) →
      wpAny (model prog w) A (eval elt (compEnvC scope cl C env)) Q' E' { s with heap := h, toks := tk })
    (hskip : ∀ i ys tups, i < vs.length → p i = false → J i ys tups → J (i + 1) ys tups)
    (fin : ∀ D C h tk ys tups m', Fr h₀ L h m → News h₀ L h ((D, lst ys) :: tups) → (∀ q ∈ base, q ∈ tups) → (∀ q ∈ base, q.1 < D) → J vs.length ys tups → h.Ns C m' → C ≠ L → h₀.get? C = none → (∀ q ∈ (D, lst ys) :: tups, q.1 ≠ C) → RR (.ref D) C (.ok .next) { s with heap := h, toks := tk }) :
    wpAny (model prog w) A (pyIter (.ref src)) (fun it s₂ => wpAny (model prog w) A (newList []) (fun acc s₃ => wpAny (model prog w) A (newFunctionEnv scope env.globals cl [] env.qual none .none (some env)) (fun cenv s₄ =>
      codeAny (model prog w) A (.compStart (.ListComp elt [⟨target, iter, ifs, 0⟩] scope pos) 0 it acc { cenv with scope := relabel scope env }) (RR acc cenv.locals) s₄) E s₃) E s₂) E s := by
  have hl : s.heap.IsList src vs.toArray := ⟨_, (N _ hm).1, rfl, _, rfl⟩
  have hlt : src < s.heap.objs.size := Heap.lt_size (N _ hm).1
  refine wpAny_pyIter_list hl (wpAny_newObj_type (wpAny_newFunctionEnv hcell (by intro y hy; simp at hy) (fun h₁ hns₁ hsb₁ => ?_) hkind))
  dsimp only at hns₁ hsb₁ ⊢
  generalize hH1 : s.heap.push { cls := .type "list_iterator", data := .fields #[.ref src, .int 0 0] } = H1 at hns₁ hsb₁ ⊢
  generalize hH2 : H1.push { cls := .type "list", data := .seq #[] } = H2 at hns₁ hsb₁ ⊢
  have hD : H1.objs.size = s.heap.objs.size + 1 := by rw [← hH1, Heap.size_push]
  have hC : H2.objs.size = s.heap.objs.size + 1 + 1 := by rw [← hH2, Heap.size_push, hD]
  have up1 : ∀ b o, s.heap.get? b = some o → H1.get? b = some o := fun b o e => hH1 ▸ Heap.get?_push_of_some _ e
  have up2 : ∀ b o, H1.get? b = some o → H2.get? b = some o := fun b o e => hH2 ▸ Heap.get?_push_of_some _ e
  have up3 : ∀ b o, H2.get? b = some o → h₁.get? b = some o := fun b o e => hsb₁.extBut b o (Nat.ne_of_lt (Heap.lt_size e)) (Heap.get?_push_of_some _ e)
  have old : ∀ b o, s.heap.get? b = some o → h₁.get? b = some o := fun b o e => up3 _ _ (up2 _ _ (up1 _ _ e))
  have hacc : h₁.get? H1.objs.size = some (lst []) := up3 _ _ (hH2 ▸ Heap.get?_push_size _ rfl)
  have hItr : h₁.IsListIter s.heap.objs.size src 0 := ⟨_, up3 _ _ (up2 _ _ (hH1 ▸ Heap.get?_push_size _ rfl)), rfl, rfl⟩
  have fresh₀ : ∀ a, s.heap.objs.size ≤ a → h₀.get? a = none := fun a ha => by
    cases e : h₀.get? a with
    | none => rfl
    | some o' => exact absurd (Heap.lt_size (F.keep a o' e)) (Nat.not_lt.mpr ha)
  have hLlt : L < s.heap.objs.size := F.ns.lt
  have offlt : ∀ q ∈ base, q.1 < s.heap.objs.size := fun q hq => Heap.lt_size (N q hq).1
  generalize hIe : s.heap.objs.size = I at *
  generalize hDe : H1.objs.size = D at *
  generalize hCe : H2.objs.size = C at *
  have W := Walks.list (prog := prog) (w := w) (A := A) hh I src (Nat.ne_of_lt hlt) vs.toArray
  have lD : ∀ b, b < I → b ≠ D := fun b hb => by rw [hD]; exact Nat.ne_of_lt (Nat.lt_succ_of_lt hb)
  have lC : ∀ b, b < I → b ≠ C := fun b hb => by rw [hC]; exact Nat.ne_of_lt (Nat.lt_succ_of_lt (Nat.lt_succ_of_lt hb))
  have hID : I ≠ D := by rw [hD]; exact Nat.ne_of_lt (Nat.lt_succ_self _)
  have hIC : I ≠ C := by rw [hC]; exact Nat.ne_of_lt (Nat.lt_succ_of_lt (Nat.lt_succ_self _))
  have hDC : D ≠ C := by rw [hC, hD]; exact Nat.ne_of_lt (Nat.lt_succ_self _)
  have hLI : L ≠ I := Nat.ne_of_lt hLlt
  have hLD : D ≠ L := Ne.symm (lD L hLlt)
  have hLC : C ≠ L := Ne.symm (lC L hLlt)
  have hI₀ := fresh₀ I (Nat.le_refl _)
  have hD₀ := fresh₀ D (by rw [hD]; exact Nat.le_succ _)
  have hC₀ := fresh₀ C (by rw [hC]; exact Nat.le_trans (Nat.le_succ _) (Nat.le_succ _))
  have loop : ∀ s₃ : Shared, s₃ = { s with heap := h₁, toks := s.toks + ([] : List (Str × Value)).length } →
      codeAny (model prog w) A (.compLoop (.ListComp elt [⟨target, iter, ifs, 0⟩] scope pos) 0 (.ref I) (.ref D) (compEnvC scope cl C env))
        (RR (.ref D) C) s₃ := by
    rintro s₃ rfl
    refine loopG
      (fun k s' => ∃ h' tk i ys m' tups, s' = { s with heap := h', toks := tk } ∧ i ≤ vs.length ∧ k = vs.length + 1 - i ∧ ys.length ≤ i ∧ h'.IsListIter I src i ∧ Fr h₀ L h' m ∧ h'.Ns C m' ∧ News h₀ L h' ((D, lst ys) :: tups) ∧
        (∀ q ∈ tups, q.1 ≠ I ∧ q.1 ≠ C ∧ q.1 ≠ D) ∧ (∀ q ∈ base, q ∈ tups) ∧ J i ys tups) ?_ (vs.length + 1)
      ⟨h₁, _, 0, [], _, base, rfl, Nat.zero_le _, rfl, Nat.le_refl _, hItr, F.keeps old, hns₁, fun q hq => ?_, fun q hq => ⟨Nat.ne_of_lt (offlt q hq), lC _ (offlt q hq), lD _ (offlt q hq)⟩, fun q hq => hq, J0⟩
    · rintro k s' ⟨h', tk, i, ys, m', tups, rfl, hi, rfl, hyl, hit', F', hn', N', off', hsub, hJ⟩
      have hls : h'.IsList src vs.toArray := ⟨_, (N' _ (.tail _ (hsub _ hm))).1, rfl, _, rfl⟩
      by_cases hlt' : i < vs.length
      · refine W.item i _ _ _ (by simpa using hlt') ⟨hit', hls⟩ fun v h₂ tk₂ hPv hst₂ hk₂ => ?_
        have hPv' : vs[i]? = some v := by simpa using hPv
        have F₂ : Fr h₀ L h₂ m := fr_but F' hk₂ hLI hI₀
        have hn₂ : h₂.Ns C m' := hn'.at' fun o e => hk₂ _ o (by simpa using Ne.symm hIC) e
        have N₂ := news_but N' hk₂ fun q hq => by
          rcases List.mem_cons.mp hq with rfl | hq
          · exact Ne.symm hID
          · exact (off' q hq).1
        refine hgo I (i + 1) h₂ _ v _ _ hst₂.1 hPv' ?_
        refine hassign i v C h₂ _ m' _ _ hPv' hn₂ (fun q hq => N₂ q (.tail _ (hsub q hq))) fun h₃ tk₃ m₃ hn₃ hV hk₃ => ?_
        have hit₃ : h₃.IsListIter I src (i + 1) := hst₂.1.at fun o e => hk₃ I o hIC e
        have hit₃' := hit₃
        obtain ⟨oI, heI, hIr⟩ := hit₃
        obtain ⟨oC, heC, hoC⟩ := ns_obj hn₃
        have F₃ : Fr h₀ L h₃ m := ⟨F₂.ns.at' fun o e => hk₃ _ o (Ne.symm hLC) e, fun b o e => hk₃ b o (fun q => by rw [q, hC₀] at e; cases e) (F₂.keep b o e), F₂.above⟩
        have NDt : News h₀ L h₃ ((D, lst ys) :: tups) := fun q hq => ⟨hk₃ _ _ (by
          rcases List.mem_cons.mp hq with rfl | hq
          · exact hDC
          · exact (off' q hq).2.1) (N₂ q hq).1, (N₂ q hq).2⟩
        have N₃ : News h₀ L h₃ ((I, oI) :: (C, oC) :: (D, lst ys) :: tups) := fun q hq => by
          rcases List.mem_cons.mp hq with rfl | hq
          · exact ⟨heI, Ne.symm hLI, hI₀⟩
          · rcases List.mem_cons.mp hq with rfl | hq
            · exact ⟨heC, hLC, hC₀⟩
            · exact NDt q hq
        refine htest i C oC h₃ _ m₃ _ _ hlt' hoC hV F₃ (fun q hq => by
          rcases List.mem_cons.mp hq with rfl | hq
          · exact ⟨heC, hLC, hC₀⟩
          · exact NDt q (.tail _ (hsub q hq))) fun tk₄ => ?_
        by_cases hp : p i = true
        · rw [if_pos hp]
          refine helt i I oI C oC D h₃ _ m₃ ys tups _ _ hlt' hp hoC hV F₃ N₃ hJ hsub fun y h₄ tk₅ new F₄ N₄ hnew hJ₄ => ?_
          have zI := (N₄ (I, oI) (.head _)).1
          have zC := (N₄ (C, oC) (.tail _ (.head _))).1
          have zD := N₄ (D, lst ys) (.tail _ (.tail _ (.head _)))
          refine append_at (hsz := by rw [List.size_toArray, sizeLine_eq]; omega) zD.1 fun h₅ hs₅ hD₅ => ?_
          have off5 : ∀ q ∈ new ++ tups, q.1 ≠ I ∧ q.1 ≠ C ∧ q.1 ≠ D := fun q hq => by
            rcases List.mem_append.mp hq with hq | hq
            · exact hnew q hq
            · exact off' q hq
          refine ⟨vs.length + 1 - (i + 1), by omega, h₅, _, i + 1, ys ++ [y], _, new ++ tups, rfl, hlt', rfl, by rw [List.length_append, List.length_singleton]; omega, ⟨oI, hs₅.extBut _ _ hID zI, hIr⟩, F₄.change hs₅ hLD hD₀,
            (hoC.ns zC).sameBut hs₅ (Ne.symm hDC), fun q hq => ?_, off5, fun q hq => List.mem_append_right _ (hsub q hq), hJ₄⟩
          rcases List.mem_cons.mp hq with rfl | hq
          · exact ⟨hD₅.trans (congrArg some (lst_snoc ys y)), hLD, hD₀⟩
          · have z := N₄ q (.tail _ (.tail _ (.tail _ hq)))
            exact ⟨hs₅.extBut _ _ (off5 q hq).2.2 z.1, z.2⟩
        · rw [if_neg hp]
          exact ⟨vs.length + 1 - (i + 1), by omega, h₃, _, i + 1, ys, _, tups, rfl, hlt', rfl, by omega, hit₃', F₃, hn₃, NDt, off', hsub, hskip i ys tups hlt' (by simpa using hp) hJ⟩
      · obtain rfl : i = vs.length := Nat.le_antisymm hi (Nat.not_lt.mp hlt')
        refine W.done _ _ _ ⟨by simpa using hit', hls⟩ fun h₂ tk₂ hk₂ => ?_
        have F₂ := fr_but F' hk₂ hLI hI₀
        have N₂ := news_but N' hk₂ fun q hq => by
          rcases List.mem_cons.mp hq with rfl | hq
          · exact Ne.symm hID
          · exact (off' q hq).1
        refine fin D C h₂ tk₂ ys tups _ F₂ N₂ hsub (fun q hq => by rw [hD]; exact Nat.lt_succ_of_lt (offlt q hq)) hJ (hn'.at' fun o e => hk₂ _ o (by simpa using Ne.symm hIC) e) hLC hC₀ fun q hq => ?_
        rcases List.mem_cons.mp hq with rfl | hq
        · exact hDC
        · exact (off' q hq).2.1
    · rcases List.mem_cons.mp hq with rfl | hq
      · exact ⟨hacc, hLD, hD₀⟩
      · exact ⟨old _ _ (N q hq).1, (N q hq).2⟩
  exact codeAny_compStart_list (loop _ rfl) (W.self 0 _ _ _ ⟨hItr, hl.at fun o e => old _ _ e⟩ (loop _ rfl))
set_option maxHeartbeats 1000000 in
theorem compG {elt iter target : Expr} {ifs : List Expr} {scope : Scope} {cl : List (Str × Addr)} {pos : Pos} {s : Shared} {src : Addr} {vs : List Value} {c : Nat} {base : List (Addr × Obj)} {p : Nat → Bool} {View : Nat → (Str → Option Value) → Prop} {J : Nat → List Value → List (Addr × Obj) → Prop} {Q : Value → Shared → Prop}
    (hh : A.handled = none) (hcell : ∀ y ∈ scope.names, y.2 ≠ .cell) (hkind : scope.kind = .function)
    (F : Fr h₀ L s.heap m) (N : News h₀ L s.heap base) (hm : (src, listOf vs.toArray c) ∈ base) (hsz : vs.length ≤ 8) (J0 : J 0 [] base)
    (hgo : ∀ I i h tk v (Q' : Unit → Shared → Prop) (E' : Value → Shared → Prop), h.IsListIter I src i → vs[i - 1]? = some v → Q' () { s with heap := h, toks := tk } → wpAny (model prog w) A (letOwnedTupleGo target (.ref I) v) Q' E' { s with heap := h, toks := tk })
    (hassign : ∀ i v C h tk m' (Q' : Unit → Shared → Prop) (E' : Value → Shared → Prop), vs[i]? = some v → h.Ns C m' → News h₀ L h base →
      (∀ h' tk' m'', h'.Ns C m'' → View i m'' → (∀ b o, b ≠ C → h.get? b = some o → h'.get? b = some o) → Q' () { s with heap := h', toks := tk' }) →
      wpAny (model prog w) A (assign target (compEnvC scope cl C env) v) Q' E' { s with heap := h, toks := tk })
    (htest : ∀ i C oC h tk m₂ (Q' : Bool → Shared → Prop) (E' : Value → Shared → Prop), i < vs.length → NsObj oC m₂ → View i m₂ → Fr h₀ L h m → News h₀ L h ((C, oC) :: base) → (∀ tk', Q' (p i) { s with heap := h, toks := tk' }) →
      wpAny (model prog w) A (testsG ifs (compEnvC scope cl C env)) Q' E' { s with heap := h, toks := tk })
    (helt : ∀ i I oI C oC D h tk m₂ ys tups (Q' : Value → Shared → Prop) (E' : Value → Shared → Prop), i < vs.length → p i = true → NsObj oC m₂ → View i m₂ → Fr h₀ L h m → News h₀ L h ((I, oI) :: (C, oC) :: (D, lst ys) :: tups) → J i ys tups → (∀ q ∈ base, q ∈ tups) →
      (∀ y h' tk' new, Fr h₀ L h' m → News h₀ L h' ((I, oI) :: (C, oC) :: (D, lst ys) :: (new ++ tups)) → (∀ q ∈ new, q.1 ≠ I ∧ q.1 ≠ C ∧ q.1 ≠ D) → J (i + 1) (ys ++ [y]) (new ++ tups) → Q' y { s with heap := h', toks := tk' }) →
      wpAny (model prog w) A (eval elt (compEnvC scope cl C env)) Q' E' { s with heap := h, toks := tk })
    (hskip : ∀ i ys tups, i < vs.length → p i = false → J i ys tups → J (i + 1) ys tups)
    (fin : ∀ D h tk ys tups, Fr h₀ L h m → News h₀ L h ((D, lst ys) :: tups) → (∀ q ∈ base, q ∈ tups) → (∀ q ∈ base, q.1 < D) → J vs.length ys tups → Q (.ref D) { s with heap := h, toks := tk }) :
    wpAny (model prog w) A (pyIter (.ref src)) (fun it s₂ => wpAny (model prog w) A (newList []) (fun acc s₃ => wpAny (model prog w) A (newFunctionEnv scope env.globals cl [] env.qual none .none (some env)) (fun cenv s₄ =>
      codeAny (model prog w) A (.compStart (.ListComp elt [⟨target, iter, ifs, 0⟩] scope pos) 0 it acc { cenv with scope := relabel scope env }) (compPost (model prog w) A E none Q acc cenv.locals) s₄) E s₃) E s₂) E s := by
  refine compGR (p := p) (View := View) (J := J) hh hcell hkind F N hm hsz J0 hgo hassign htest helt hskip fun D C h tk ys tups m' F' N' hs hlt hJ hn hCL hC0 hoff => ?_
  refine ⟨m', hn, fun h'' hs'' => fin D h'' tk ys tups (F'.change hs'' hCL hC0) (fun q hq => ⟨hs''.extBut _ _ (hoff q hq) (N' q hq).1, (N' q hq).2⟩) hs hlt hJ⟩
end
end Mine

end
local macro_rules | `(tactic| walk_at "zz") => `(tactic| fail)
section
open PySem PySem.W PyProof.Rows PySem.Calls PyProof.Rows.LCg
namespace Mine
theorem dat_snd {news : List (Addr × Obj)} {v : Value} {d : Dat} {n : Int} (h : DatIn news v (.tuple [d, .int n])) : ∃ a v1 u k, v = .ref a ∧ (a, ({ cls := .type "tuple", data := .seq #[v1, .int n u] k } : Obj)) ∈ news := by
  cases h with
  | tuple hm hd =>
    cases hd with
    | cons h1 hd =>
      cases hd with
      | cons h2 hd =>
        cases hd with
        | nil => cases h2 with
          | int _ u => exact ⟨_, _, u, _, rfl, hm⟩
theorem dat_third {news : List (Addr × Obj)} {v : Value} {d e : Dat} {n : Int} (h : DatIn news v (.tuple [d, e, .int n])) : ∃ a v1 v2 u k, v = .ref a ∧ (a, ({ cls := .type "tuple", data := .seq #[v1, v2, .int n u] k } : Obj)) ∈ news := by
  cases h with
  | tuple hm hd =>
    cases hd with
    | cons h1 hd =>
      cases hd with
      | cons h2 hd =>
        cases hd with
        | cons h3 hd =>
          cases hd with
          | nil => cases h3 with
            | int _ u => exact ⟨_, _, _, u, _, rfl, hm⟩
theorem filter_snoc {p : Int → Bool} {xs : List Int} {i : Nat} {x : Int} (h : xs[i]? = some x) : (xs.take (i + 1)).filter p = if p x = true then (xs.take i).filter p ++ [x] else (xs.take i).filter p := by
  rw [take_snoc h, List.filter_append]
  by_cases hp : p x = true
  · rw [if_pos hp]; simp [List.filter, hp]
  · rw [if_neg hp]; simp [List.filter, hp]
theorem dat_at {news : List (Addr × Obj)} {vs : List Value} {pd : Int → Dat} {xs : List Int} (hd : DatAll news vs (xs.map pd)) {i : Nat} {v : Value} (h : vs[i]? = some v) : ∃ x, xs[i]? = some x ∧ DatIn news v (pd x) := by
  have hlt : i < vs.length := by
    rcases Nat.lt_or_ge i vs.length with q | q
    · exact q
    · rw [List.getElem?_eq_none q] at h; cases h
  have hk : i < (xs.map pd).length := by rw [← hd.length]; exact hlt
  obtain ⟨v', e1, e2⟩ := hd.get hk
  rw [h] at e1
  cases e1
  rw [List.getElem_map] at e2
  exact ⟨_, List.getElem?_eq_getElem (by simpa using hk), e2⟩
section
variable {prog : Program} {w : World} {A : Around} {E : Value → Shared → Prop} {h₀ : Heap} {L : Addr} {m : Str → Option Value} {env : Env}
theorem assign3 {s : Shared} {a b c' : Str} {pa pb pc tp : Pos} {kk : Nat} {T : Addr} {x y z : Value} {m : Str → Option Value} {Q : Unit → Shared → Prop} (hh : A.handled = none) (ht : s.heap.IsTuple T #[x, y, z])
    (ha : env.kindOf a = some .local) (hb : env.kindOf b = some .local) (hc : env.kindOf c' = some .local) (hp : (env.scope.kind == .class || (env.scope.kind == .module && env.locals != env.globals)) = false) (hn : s.heap.Ns env.locals m)
    (h : ∀ (h' : Heap) (tk : Nat) m'', h'.Ns env.locals m'' → m'' c' = some z → (∀ c o, c ≠ env.locals → s.heap.get? c = some o → h'.get? c = some o) → Q () { s with heap := h', toks := tk }) :
    wpAny (model prog w) A (assign (.Tuple [.Name a pa, .Name b pb, .Name c' pc] kk tp) env (.ref T)) Q E s := by
  refine wpAny_assign_Tuple hh ht rfl rfl fun h₁ he₁ => ?_
  have hL : env.locals ≠ s.heap.objs.size := Nat.ne_of_lt hn.lt
  have hn₁ : h₁.Ns env.locals m := hn.at' fun o e => he₁ _ o hL e
  have up₁ : ∀ c o, s.heap.get? c = some o → h₁.get? c = some o := fun c o e => he₁ c o (Nat.ne_of_lt (Heap.lt_size e)) e
  show wpAny _ _ (assignInOrder [assign (.Name a pa) env, assign (.Name b pb) env, assign (.Name c' pc) env] [x, y, z]) _ _ _
  refine assignInOrder_cons ?_
  refine wpAny_assign_Name (wpAny_storeName_local ha hn₁ (fun h₂ hn₂ hs₂ => ?_) hp)
  refine assignInOrder_cons ?_
  refine wpAny_assign_Name (wpAny_storeName_local hb hn₂ (fun h₃ hn₃ hs₃ => ?_) hp)
  refine assignInOrder_cons ?_
  refine wpAny_assign_Name (wpAny_storeName_local hc hn₃ (fun h₄ hn₄ hs₄ => ?_) hp)
  refine assignInOrder_nil ?_
  exact h h₄ _ _ hn₄ (if_pos rfl) fun c o hc e => hs₄.extBut c o hc (hs₃.extBut c o hc (hs₂.extBut c o hc (up₁ c o e)))
set_option maxHeartbeats 1000000 in
/-- The last of a pair, for each pair that passes. -/
theorem compSnd {iter : Expr} {xa xb : Str} {pa pb tp pe : Pos} {kk : Nat} {ifs : List Expr} {scope : Scope} {cl : List (Str × Addr)} {pos : Pos} {s : Shared} {src : Addr} {vs : List Value} {c : Nat} {base nd : List (Addr × Obj)} {f : Int → Dat} {xs : List Int} {p : Int → Bool} {Q : Value → Shared → Prop}
    (hh : A.handled = none) (hcell : ∀ y ∈ scope.names, y.2 ≠ .cell) (hkind : scope.kind = .function) (ha : scope.names.lookup xa = some .local) (hb : scope.names.lookup xb = some .local) (hdb : (xb == ("__debug__" : Str)) = false)
    (F : Fr h₀ L s.heap m) (N : News h₀ L s.heap base) (hm : (src, listOf vs.toArray c) ∈ base) (hd : DatAll nd vs (xs.map fun x => .tuple [f x, .int x])) (hsub : ∀ q ∈ nd, q ∈ base) (hsz : xs.length ≤ 8)
    (htest : ∀ x u C oC h tk m₂ (Q' : Bool → Shared → Prop) (E' : Value → Shared → Prop), x ∈ xs → NsObj oC m₂ → m₂ xb = some (.int x u) → Fr h₀ L h m → News h₀ L h ((C, oC) :: base) → (∀ tk', Q' (p x) { s with heap := h, toks := tk' }) →
      wpAny (model prog w) A (testsG ifs (compEnvC scope cl C env)) Q' E' { s with heap := h, toks := tk })
    (fin : ∀ D h tk ys, Fr h₀ L h m → News h₀ L h ((D, lst ys) :: base) → (∀ q ∈ base, q.1 < D) → IntsAre ys (xs.filter p) → Q (.ref D) { s with heap := h, toks := tk }) :
    wpAny (model prog w) A (pyIter (.ref src)) (fun it s₂ => wpAny (model prog w) A (newList []) (fun acc s₃ => wpAny (model prog w) A (newFunctionEnv scope env.globals cl [] env.qual none .none (some env)) (fun cenv s₄ =>
      codeAny (model prog w) A (.compStart (.ListComp (.Name xb pe) [⟨.Tuple [.Name xa pa, .Name xb pb] kk tp, iter, ifs, 0⟩] scope pos) 0 it acc { cenv with scope := relabel scope env }) (compPost (model prog w) A E none Q acc cenv.locals) s₄) E s₃) E s₂) E s := by
  have hlen : vs.length = xs.length := by rw [hd.length, List.length_map]
  refine compG (p := fun i => (xs[i]?.map p).getD false) (View := fun i m₂ => ∃ x u, xs[i]? = some x ∧ m₂ xb = some (.int x u)) (J := fun i ys tups => tups = base ∧ IntsAre ys ((xs.take i).filter p)) hh hcell hkind F N hm (by omega) ⟨rfl, .nil⟩ ?_ ?_ ?_ ?_ ?_ ?_
  · intro I i h tk v Q' E' hit hv hq
    obtain ⟨x, hx, dx⟩ := dat_at hd hv
    obtain ⟨a, v1, u, k, rfl, _⟩ := dat_snd dx
    exact wpAny_letOwnedTupleGo_listiter hit hq
  · intro i v C h tk m' Q' E' hv hn N' hq
    obtain ⟨x, hx, dx⟩ := dat_at hd hv
    obtain ⟨a, v1, u, k, rfl, hma⟩ := dat_snd dx
    refine kcp_assign hh ⟨_, (N' _ (hsub _ hma)).1, rfl, _, rfl⟩ (lookup_relabel_local ha) (lookup_relabel_local hb) (by simp [compEnvC, relabel, hkind]) hn fun h' tk' hn' hk' => ?_
    exact hq h' tk' _ hn' ⟨x, u, hx, if_pos rfl⟩ hk'
  · intro i C oC h tk m₂ Q' E' hi hC ⟨x, u, hx, hv⟩ F' N' hq
    refine htest x u C oC h tk m₂ Q' E' (List.mem_of_getElem? hx) hC hv F' N' fun tk' => ?_
    have := hq tk'
    rw [hx] at this
    exact this
  · intro i I oI C oC D h tk m₂ ys tups Q' E' hi hp hC ⟨x, u, hx, hv⟩ F' N' ⟨e, hJ⟩ hs hq
    subst e
    have hpx : p x = true := by rw [hx] at hp; exact hp
    refine ldVarK (hC.ns (N' (C, oC) (.tail _ (.head _))).1) hv ?_ (by show (relabel scope env).kind = .function; exact hkind) (lookup_relabel_local hb) hdb
    exact hq _ h tk [] F' N' (fun q hq => nomatch hq) ⟨rfl, by rw [filter_snoc hx, if_pos hpx]; exact ints_snoc hJ _ _⟩
  · intro i ys tups hi hp ⟨e, hJ⟩
    obtain ⟨x, hx⟩ : ∃ x, xs[i]? = some x := ⟨_, List.getElem?_eq_getElem (by omega)⟩
    rw [hx] at hp
    exact ⟨e, by rw [filter_snoc hx, if_neg (by rw [show p x = false from hp]; exact Bool.false_ne_true)]; exact hJ⟩
  · intro D h tk ys tups F' N' _ hlt ⟨e, hJ⟩
    subst e
    rw [hlen, List.take_length] at hJ
    exact fin D h tk ys F' N' hlt hJ
set_option maxHeartbeats 1000000 in
/-- The last of a triple. -/
theorem compThird {iter : Expr} {xa xb xc : Str} {pa pb pc tp pe : Pos} {kk : Nat} {scope : Scope} {cl : List (Str × Addr)} {pos : Pos} {s : Shared} {src : Addr} {vs : List Value} {c : Nat} {base nd : List (Addr × Obj)} {f g : Int → Dat} {xs : List Int} {Q : Value → Shared → Prop}
    (hh : A.handled = none) (hcell : ∀ y ∈ scope.names, y.2 ≠ .cell) (hkind : scope.kind = .function) (ha : scope.names.lookup xa = some .local) (hb : scope.names.lookup xb = some .local) (hc : scope.names.lookup xc = some .local) (hdb : (xc == ("__debug__" : Str)) = false)
    (F : Fr h₀ L s.heap m) (N : News h₀ L s.heap base) (hm : (src, listOf vs.toArray c) ∈ base) (hd : DatAll nd vs (xs.map fun x => .tuple [f x, g x, .int x])) (hsub : ∀ q ∈ nd, q ∈ base) (hsz : xs.length ≤ 8)
    (fin : ∀ D h tk ys, Fr h₀ L h m → News h₀ L h ((D, lst ys) :: base) → (∀ q ∈ base, q.1 < D) → IntsAre ys xs → Q (.ref D) { s with heap := h, toks := tk }) :
    wpAny (model prog w) A (pyIter (.ref src)) (fun it s₂ => wpAny (model prog w) A (newList []) (fun acc s₃ => wpAny (model prog w) A (newFunctionEnv scope env.globals cl [] env.qual none .none (some env)) (fun cenv s₄ =>
      codeAny (model prog w) A (.compStart (.ListComp (.Name xc pe) [⟨.Tuple [.Name xa pa, .Name xb pb, .Name xc pc] kk tp, iter, [], 0⟩] scope pos) 0 it acc { cenv with scope := relabel scope env }) (compPost (model prog w) A E none Q acc cenv.locals) s₄) E s₃) E s₂) E s := by
  have hlen : vs.length = xs.length := by rw [hd.length, List.length_map]
  refine compG (p := fun i => true) (View := fun i m₂ => ∃ x u, xs[i]? = some x ∧ m₂ xc = some (.int x u)) (J := fun i ys tups => tups = base ∧ IntsAre ys (xs.take i)) hh hcell hkind F N hm (by omega) ⟨rfl, .nil⟩ ?_ ?_ ?_ ?_ ?_ ?_
  · intro I i h tk v Q' E' hit hv hq
    obtain ⟨x, hx, dx⟩ := dat_at hd hv
    obtain ⟨a, v1, v2, u, k, rfl, _⟩ := dat_third dx
    exact wpAny_letOwnedTupleGo_listiter hit hq
  · intro i v C h tk m' Q' E' hv hn N' hq
    obtain ⟨x, hx, dx⟩ := dat_at hd hv
    obtain ⟨a, v1, v2, u, k, rfl, hma⟩ := dat_third dx
    refine assign3 hh ⟨_, (N' _ (hsub _ hma)).1, rfl, _, rfl⟩ (lookup_relabel_local ha) (lookup_relabel_local hb) (lookup_relabel_local hc) (by simp [compEnvC, relabel, hkind]) hn fun h' tk' m'' hn' hv' hk' => ?_
    exact hq h' tk' _ hn' ⟨x, u, hx, hv'⟩ hk'
  · intro i C oC h tk m₂ Q' E' hi hC ⟨x, u, hx, hv⟩ F' N' hq
    exact tests_nil (hq tk)
  · intro i I oI C oC D h tk m₂ ys tups Q' E' hi hp hC ⟨x, u, hx, hv⟩ F' N' ⟨e, hJ⟩ hs hq
    subst e
    refine ldVarK (hC.ns (N' (C, oC) (.tail _ (.head _))).1) hv ?_ (by show (relabel scope env).kind = .function; exact hkind) (lookup_relabel_local hc) hdb
    exact hq _ h tk [] F' N' (fun q hq => nomatch hq) ⟨rfl, by rw [take_snoc hx]; exact ints_snoc hJ _ _⟩
  · intro i ys tups hi hp _
    cases hp
  · intro D h tk ys tups F' N' _ hlt ⟨e, hJ⟩
    subst e
    rw [hlen, List.take_length] at hJ
    exact fin D h tk ys F' N' hlt hJ
set_option maxHeartbeats 1000000 in
/-- The whole numbers that pass. -/
theorem compInt {iter : Expr} {x : Str} {px pe : Pos} {ifs : List Expr} {scope : Scope} {cl : List (Str × Addr)} {pos : Pos} {s : Shared} {src : Addr} {vs : List Value} {c : Nat} {base : List (Addr × Obj)} {xs : List Int} {p : Int → Bool} {Q : Value → Shared → Prop}
    (hh : A.handled = none) (hcell : ∀ y ∈ scope.names, y.2 ≠ .cell) (hkind : scope.kind = .function) (ha : scope.names.lookup x = some .local) (hdb : (x == ("__debug__" : Str)) = false)
    (F : Fr h₀ L s.heap m) (N : News h₀ L s.heap base) (hm : (src, listOf vs.toArray c) ∈ base) (hd : IntsAre vs xs) (hsz : xs.length ≤ 8)
    (htest : ∀ n u C oC h tk m₂ (Q' : Bool → Shared → Prop) (E' : Value → Shared → Prop), n ∈ xs → NsObj oC m₂ → m₂ x = some (.int n u) → Fr h₀ L h m → News h₀ L h ((C, oC) :: base) → (∀ tk', Q' (p n) { s with heap := h, toks := tk' }) →
      wpAny (model prog w) A (testsG ifs (compEnvC scope cl C env)) Q' E' { s with heap := h, toks := tk })
    (fin : ∀ D h tk ys, Fr h₀ L h m → News h₀ L h ((D, lst ys) :: base) → (∀ q ∈ base, q.1 < D) → IntsAre ys (xs.filter p) → Q (.ref D) { s with heap := h, toks := tk }) :
    wpAny (model prog w) A (pyIter (.ref src)) (fun it s₂ => wpAny (model prog w) A (newList []) (fun acc s₃ => wpAny (model prog w) A (newFunctionEnv scope env.globals cl [] env.qual none .none (some env)) (fun cenv s₄ =>
      codeAny (model prog w) A (.compStart (.ListComp (.Name x pe) [⟨.Name x px, iter, ifs, 0⟩] scope pos) 0 it acc { cenv with scope := relabel scope env }) (compPost (model prog w) A E none Q acc cenv.locals) s₄) E s₃) E s₂) E s := by
  have hlen : vs.length = xs.length := hd.length
  refine compG (p := fun i => (xs[i]?.map p).getD false) (View := fun i m₂ => ∃ n u, xs[i]? = some n ∧ m₂ x = some (.int n u)) (J := fun i ys tups => tups = base ∧ IntsAre ys ((xs.take i).filter p)) hh hcell hkind F N hm (by omega) ⟨rfl, .nil⟩ ?_ ?_ ?_ ?_ ?_ ?_
  · intro I i h tk v Q' E' hit hv hq
    exact wpAny_of_eq (a := ()) rfl hq
  · intro i v C h tk m' Q' E' hv hn N' hq
    obtain ⟨n, t, rfl, hx⟩ := ints_at hd hv
    refine wpAny_assign_Name (wpAny_storeName_local (lookup_relabel_local ha) hn (fun h₃ hn₃ hs₃ => ?_) (by simp [compEnvC, relabel, hkind]))
    exact hq h₃ _ _ hn₃ ⟨n, t, hx, if_pos rfl⟩ fun b o hb e => hs₃.extBut b o hb e
  · intro i C oC h tk m₂ Q' E' hi hC ⟨n, u, hx, hv⟩ F' N' hq
    refine htest n u C oC h tk m₂ Q' E' (List.mem_of_getElem? hx) hC hv F' N' fun tk' => ?_
    have := hq tk'
    rw [hx] at this
    exact this
  · intro i I oI C oC D h tk m₂ ys tups Q' E' hi hp hC ⟨n, u, hx, hv⟩ F' N' ⟨e, hJ⟩ hs hq
    subst e
    have hpx : p n = true := by rw [hx] at hp; exact hp
    refine ldVarK (hC.ns (N' (C, oC) (.tail _ (.head _))).1) hv ?_ (by show (relabel scope env).kind = .function; exact hkind) (lookup_relabel_local ha) hdb
    exact hq _ h tk [] F' N' (fun q hq => nomatch hq) ⟨rfl, by rw [filter_snoc hx, if_pos hpx]; exact ints_snoc hJ _ _⟩
  · intro i ys tups hi hp ⟨e, hJ⟩
    obtain ⟨n, hx⟩ : ∃ x, xs[i]? = some x := ⟨_, List.getElem?_eq_getElem (by omega)⟩
    rw [hx] at hp
    exact ⟨e, by rw [filter_snoc hx, if_neg (by rw [show p n = false from hp]; exact Bool.false_ne_true)]; exact hJ⟩
  · intro D h tk ys tups F' N' _ hlt ⟨e, hJ⟩
    subst e
    rw [hlen, List.take_length] at hJ
    exact fin D h tk ys F' N' hlt hJ
end
end Mine

end
local macro_rules | `(tactic| walk_at "zz") => `(tactic| fail)
section
open PySem PySem.W PyProof.Rows PySem.Calls PyProof.Rows.LCg
namespace Mine
section
variable {prog : Program} {w : World} {A : Around} {E : Value → Shared → Prop} {h₀ : Heap} {m : Str → Option Value} {env : Env}
set_option maxHeartbeats 1000000 in
/-- y = [x for x in .. if ..] over whole numbers. -/
theorem assign_compInt {iter : Expr} {x y : Str} {px pe py : Pos} {ifs : List Expr} {scope : Scope} {cl : List (Str × Addr)} {pos spos : Pos} {s : Shared} {src : Addr} {vs : List Value} {c : Nat} {base : List (Addr × Obj)} {xs : List Int} {p : Int → Bool} {Q : Flow → Shared → Prop}
    (hsw : swapsWith (.ListComp (.Name x pe) [⟨.Name x px, iter, ifs, 0⟩] scope pos) (some (.Name y py)) spos.line env = pure true) (hs : ∀ x, foldedSetIterable iter env x = pure x) (hclos : closureFor scope env = pure cl)
    (hh : A.handled = none) (hcell : ∀ y ∈ scope.names, y.2 ≠ .cell) (hkind : scope.kind = .function) (hnames : ∀ x ∈ scope.names, x.2 = .local → scope.names.lookup x.1 = some .local) (ha : scope.names.lookup x = some .local) (hdb : (x == ("__debug__" : Str)) = false)
    (hy : env.kindOf y = some .local) (hp : (env.scope.kind == .class || (env.scope.kind == .module && env.locals != env.globals)) = false)
    (hit : ∀ Q' : Value → Shared → Prop, Q' (.ref src) s → wpAny (model prog w) A (eval iter env) Q' E s)
    (F : Fr h₀ env.locals s.heap m) (N : News h₀ env.locals s.heap base) (hm : (src, listOf vs.toArray c) ∈ base) (hd : IntsAre vs xs) (hsz : xs.length ≤ 8)
    (htest : ∀ n u C oC h tk m₂ (Q' : Bool → Shared → Prop) (E' : Value → Shared → Prop), n ∈ xs → NsObj oC m₂ → m₂ x = some (.int n u) → Fr h₀ env.locals h m → News h₀ env.locals h ((C, oC) :: base) → (∀ tk', Q' (p n) { s with heap := h, toks := tk' }) →
      wpAny (model prog w) A (testsG ifs (compEnvC scope cl C env)) Q' E' { s with heap := h, toks := tk })
    (fin : ∀ D h tk ys, Fr h₀ env.locals h (fun z => if z = y then some (.ref D) else m z) → News h₀ env.locals h ((D, lst ys) :: base) → (∀ q ∈ base, q.1 < D) → IntsAre ys (xs.filter p) → Q .next { s with heap := h, toks := tk }) :
    wpAny (model prog w) A (exec (.Assign [.Name y py] (.ListComp (.Name x pe) [⟨.Name x px, iter, ifs, 0⟩] scope pos) spos) env) Q E s := by
  have hlen : vs.length = xs.length := hd.length
  rw [exec_Assign_Name_used _ _ _ _ hsw]
  refine wpAny_bind (wpAny_standAt (wpAny_bind ?_))
  show wpAny _ A (do let _ ← comprehension (.ListComp (.Name x pe) [⟨.Name x px, iter, ifs, 0⟩] scope pos) scope env _ (newList []) false (eval iter env) (some (assign (.Name y py) env))) _ _ s
  refine wpAny_bind (wpAny_mono (wpAny_comprehension_free (use := some (assign (.Name y py) env)) (Q := fun _ s' => Q .next s') rfl hs hclos hkind hnames
    (hit _ ?_)) (fun _ s' hq => wpAny_pure (wpAny_pure hq)) fun _ _ e => e)
  refine compGR (p := fun i => (xs[i]?.map p).getD false) (View := fun i m₂ => ∃ n u, xs[i]? = some n ∧ m₂ x = some (.int n u)) (J := fun i ys tups => tups = base ∧ IntsAre ys ((xs.take i).filter p))
    (RR := fun acc C => compPost (model prog w) A E (some (assign (.Name y py) env)) (fun _ s' => Q .next s') acc C) hh hcell hkind F N hm (by omega) ⟨rfl, .nil⟩ ?_ ?_ ?_ ?_ ?_ ?_
  · intro I i h tk v Q' E' hit hv hq
    exact wpAny_of_eq (a := ()) rfl hq
  · intro i v C h tk m' Q' E' hv hn N' hq
    obtain ⟨n, t, rfl, hx⟩ := ints_at hd hv
    refine wpAny_assign_Name (wpAny_storeName_local (lookup_relabel_local ha) hn (fun h₃ hn₃ hs₃ => ?_) (by simp [compEnvC, relabel, hkind]))
    exact hq h₃ _ _ hn₃ ⟨n, t, hx, if_pos rfl⟩ fun b o hb e => hs₃.extBut b o hb e
  · intro i C oC h tk m₂ Q' E' hi hC ⟨n, u, hx, hv⟩ F' N' hq
    refine htest n u C oC h tk m₂ Q' E' (List.mem_of_getElem? hx) hC hv F' N' fun tk' => ?_
    have := hq tk'
    rw [hx] at this
    exact this
  · intro i I oI C oC D h tk m₂ ys tups Q' E' hi hp hC ⟨n, u, hx, hv⟩ F' N' ⟨e, hJ⟩ hs hq
    subst e
    have hpx : p n = true := by rw [hx] at hp; exact hp
    refine ldVarK (hC.ns (N' (C, oC) (.tail _ (.head _))).1) hv ?_ (by show (relabel scope env).kind = .function; exact hkind) (lookup_relabel_local ha) hdb
    exact hq _ h tk [] F' N' (fun q hq => nomatch hq) ⟨rfl, by rw [filter_snoc hx, if_pos hpx]; exact ints_snoc hJ _ _⟩
  · intro i ys tups hi hp ⟨e, hJ⟩
    obtain ⟨n, hx⟩ : ∃ x, xs[i]? = some x := ⟨_, List.getElem?_eq_getElem (by omega)⟩
    rw [hx] at hp
    exact ⟨e, by rw [filter_snoc hx, if_neg (by rw [show p n = false from hp]; exact Bool.false_ne_true)]; exact hJ⟩
  · intro D C h tk ys tups m' F' N' _ hlt ⟨e, hJ⟩ hn hCL hC0 hoff
    subst e
    rw [hlen, List.take_length] at hJ
    show wpAny _ A (assign (.Name y py) env (.ref D)) _ _ _
    refine wpAny_assign_Name (wpAny_storeName_local hy F'.ns (fun h₂ hn₂ hs₂ => ?_) hp)
    have hL₀ : h₀.get? env.locals = none := Heap.get?_none_of_le F'.above
    have F₂ : Fr h₀ env.locals h₂ (fun z => if z = y then some (.ref D) else m z) := ⟨hn₂, fun b o e => hs₂.extBut b o (fun q => by rw [q, hL₀] at e; cases e) (F'.keep b o e), F'.above⟩
    refine ⟨m', hn.sameBut hs₂ hCL, fun h'' hs'' => fin D h'' _ ys (F₂.change hs'' hCL hC0) (fun q hq => ?_) hlt hJ⟩
    have z : h₂.get? q.1 = some q.2 := hs₂.extBut _ _ (N' q hq).2.1 (N' q hq).1
    exact ⟨hs''.extBut _ _ (hoff q hq) z, (N' q hq).2⟩
end
end Mine

end
local macro_rules | `(tactic| walk_at "zz") => `(tactic| fail)
section
open PySem PySem.W PyProof.Rows PySem.Calls
namespace Mine
abbrev pdPl (n : Int) : Dat := .tuple [.tuple [.int (placeN n), .int n], .int n]
theorem dat_pl {news : List (Addr × Obj)} {v : Value} {n : Int} (h : DatIn news v (pdPl n)) : ∃ a b t u t' i j, v = .ref a ∧ (a, ({ cls := .type "tuple", data := .seq #[.ref b, .int n u] i } : Obj)) ∈ news ∧ (b, ({ cls := .type "tuple", data := .seq #[.int (placeN n) t, .int n t'] j } : Obj)) ∈ news := by
  cases h with
  | tuple hm hd =>
    cases hd with
    | cons h1 hd =>
      cases hd with
      | cons h2 hd =>
        cases hd with
        | nil => cases h2 with
          | int _ u => cases h1 with
            | tuple hm1 hd1 =>
              cases hd1 with
              | cons h3 hd1 => cases hd1 with
                | cons h4 hd1 => cases hd1 with
                  | nil => cases h3 with
                    | int _ t => cases h4 with
                      | int _ t' => exact ⟨_, _, t, u, t', _, _, rfl, hm, hm1⟩
section
variable {prog : Program} {w : World} {A : Around} {E : Value → Shared → Prop} {s : Shared} {h₀ : Heap} {L : Addr} {news : List (Addr × Obj)}
theorem tup2G {i : Nat} {a b n k : Int} {t u t' u' : Tok} {x y : Addr} {j : Nat} {Q : Bool → Shared → Prop} (hu : A.units + 64 < cLine) (hx : s.heap.get? x = some { cls := .type "tuple", data := .seq #[.int a t, .int n u] i }) (hy : s.heap.get? y = some { cls := .type "tuple", data := .seq #[.int b t', .int k u'] j })
    (h : Q (decide (a = b ∧ n = k)) s) : wpAny (model prog w) A (eqBool (.ref x) (.ref y)) Q E s := by
  unfold eqBool
  refine wpAny_holding ?_
  by_cases hxy : x = y
  · subst hxy
    rw [hx] at hy
    have e : [Value.int a t, Value.int n u] = [Value.int b t', Value.int k u'] := by injection hy with q; injection q with _ _ q; injection q with q; exact congrArg Array.toList q
    injection e with e1 e2
    injection e2 with e2 _
    injection e1 with e1 _
    injection e2 with e2 _
    subst e1 e2
    rw [decide_eq_true ⟨rfl, rfl⟩] at h
    show wpAny _ _ (if (Value.ref x == Value.ref x) = true then _ else _) Q E s
    rw [if_pos (by simp)]
    exact wpAny_bind (wpAny_rule (wpAny_pure h))
  · show wpAny _ _ (if (Value.ref x == Value.ref y) = true then _ else _) Q E s
    rw [if_neg (by simp [hxy])]
    have la := kqd_lay 9 (.tuple [.int a, .int n]) (by simp [kqdOk])
    have lb := kqd_lay 9 (.tuple [.int b, .int k]) (by simp [kqdOk])
    have q0 := kqd_eqv 9 (.tuple [.int a, .int n]) (.tuple [.int b, .int k]) 9 (by simp [kqdOk]) (by simp [kqdOk])
    simp only [kqdP, kqdPs] at la lb q0
    have q : wpAny (model prog w) A (compareOp .Eq (.ref x) (.ref y)) (fun v s' => v = .bool (decide (a = b ∧ n = k)) ∧ s' = s) E s := by
      refine eq_dataH (as := []) (bs := []) (reads_tuple_at hx rfl rfl (xs := [.int a, .int n]) ?_) (reads_tuple_at hy rfl rfl (xs := [.int b, .int k]) ?_) ?_ ?_ hu ?_
      · exact readsAll_cons_val (.int _ _) (readsAll_cons_val (.int _ _) .nil)
      · exact readsAll_cons_val (.int _ _) (readsAll_cons_val (.int _ _) .nil)
      · unfold SeqAt.shaped; rw [la.1, Bool.true_and]; exact decide_eq_true (Nat.le_trans la.2 (by decide))
      · unfold SeqAt.shaped; rw [lb.1, Bool.true_and]; exact decide_eq_true (Nat.le_trans lb.2 (by decide))
      · refine ⟨congrArg Value.bool ?_, rfl⟩
        rw [Bool.eq_iff_iff, q0, decide_eq_true_iff]
        simp
    refine wpAny_bind (wpAny_mono q (fun v s' hv => ?_) fun _ _ x => x)
    obtain ⟨rfl, rfl⟩ := hv
    exact wpAny_truthy_bool h
theorem lt2G {x y : Addr} {a b n k : Int} {t u t' u' : Tok} {i j : Nat} {Q : Value → Shared → Prop} (hu : A.units < cLine) (hx : s.heap.get? x = some { cls := .type "tuple", data := .seq #[.int a t, .int n u] i }) (hy : s.heap.get? y = some { cls := .type "tuple", data := .seq #[.int b t', .int k u'] j })
    (h : Q (.bool (if a = b then decide (n < k) else decide (a < b))) s) : wpAny (model prog w) A (compareOp .Lt (.ref x) (.ref y)) Q E s := by
  have tx : IsTup s.heap x #[.int a t, .int n u] := ⟨_, hx, rfl, _, rfl⟩
  have ty : IsTup s.heap y #[.int b t', .int k u'] := ⟨_, hy, rfl, _, rfl⟩
  show wpAny (model prog w) A (richCompare .Lt (.ref x) (.ref y)) Q E s
  refine wpAny_richCompare_same_or (T := "tuple") tx.typeIs ty.typeIs PySem.F.slot_tuple_lt (wpAny_call_entry PySem.F.slot_tuple_lt tx.typeIs PySem.F.entry_tuple_lt ?_ (PySem.F.args_tuple_lt_2 _ _)) (.inr hu)
  show wpAny _ _ (do
    if !(← isInstance (.ref y) (.type "tuple")) then return ← ret .notImplemented
    let xs ← Builtin.Tuple.tupleItemsOf (.ref x)
    let ys ← Builtin.Tuple.tupleItemsOf (.ref y)
    for (x, y) in xs.toList.zip ys.toList do
      if !(← eqBool x y) then
        rule "tuple.compare.by-the-first-pair-that-differs"; return ← ret (← richCompare .Lt x y)
    ret (Builtin.Tuple.tupleCompareSizes .Lt xs.size ys.size)) _ _ _
  refine wpAny_bind (wpAny_isInstance ty.typeIs (b := true) (by rw [isSubtype_type]; kernel_rfl) ?_)
  refine wpAny_bind (tupleItemsOf_ tx (wpAny_bind (tupleItemsOf_ ty ?_)))
  have ez : (#[Value.int a t, Value.int n u].toList.zip #[Value.int b t', Value.int k u'].toList) = [(Value.int a t, Value.int b t'), (Value.int n u, Value.int k u')] := rfl
  rw [ez]
  simp only [List.forIn_cons, List.forIn_nil, bind_assoc]
  refine wpAny_bind (wpAny_eqBool_int ?_)
  by_cases hab : a = b
  · subst hab
    rw [if_pos rfl] at h
    simp only [beq_self_eq_true, Bool.not_true, Bool.false_eq_true, if_false, pure_bind]
    refine wpAny_bind (wpAny_bind (wpAny_eqBool_int ?_))
    by_cases hn : n = k
    · subst hn
      simp only [beq_self_eq_true, Bool.not_true, Bool.false_eq_true, if_false, pure_bind]
      rw [decide_eq_false (Int.lt_irrefl _)] at h
      exact wpAny_pure (wpAny_pure ⟨_, rfl, (fun e => nomatch e), h⟩)
    · simp only [beq_eq_false_iff_ne.mpr hn, Bool.not_false, if_true, bind_assoc]
      refine wpAny_bind (wpAny_bind (wpAny_rule (wpAny_pure ?_)))
      refine wpAny_bind (PySem.wpAny_lt_int ?_)
      refine wpAny_bind (wpAny_pure ?_)
      refine wpAny_bind (wpAny_pure ?_)
      exact wpAny_pure (wpAny_pure ⟨_, rfl, (fun e => nomatch e), h⟩)
  · rw [if_neg hab] at h
    simp only [beq_eq_false_iff_ne.mpr hab, Bool.not_false, if_true, bind_assoc]
    refine wpAny_bind (wpAny_rule (wpAny_bind (PySem.wpAny_lt_int ?_)))
    exact wpAny_bind (wpAny_pure (wpAny_pure ⟨_, rfl, (fun e => nomatch e), h⟩))
theorem pl_firsts {h : Heap} (N : News h₀ L h news) : ∀ {xs : List Int} {vs : List Value}, DatAll news vs (xs.map pdPl) → ∃ fs, KatTups h vs fs ∧ fs.length = xs.length ∧ ∀ v ∈ fs, ∃ b o, v = Value.ref b ∧ h.get? b = some o ∧ o.cls = .type "tuple"
  | [], _, hd => by cases hd; exact ⟨[], .nil, rfl, fun v hv => nomatch hv⟩
  | x :: r, _, hd => by
    cases hd with
    | cons h1 hd =>
      obtain ⟨fs, k1, k2, k3⟩ := pl_firsts N hd
      obtain ⟨a, b, t, u, t', i, j, rfl, hm, hm1⟩ := dat_pl h1
      refine ⟨.ref b :: fs, KatTups.cons (N _ hm).1 rfl rfl rfl k1, by rw [List.length_cons, List.length_cons, k2], fun v hv => ?_⟩
      rcases List.mem_cons.mp hv with rfl | hv
      · exact ⟨_, _, rfl, (N _ hm1).1, rfl⟩
      · exact k3 v hv
theorem sorted_place {xs : List Int} {vs : List Value} {l : Addr} {m : Str → Option Value} {Q : Value → Shared → Prop} {nd : List (Addr × Obj)} (hu : A.in1.in1.units + 64 < cLine) (F : Fr h₀ L s.heap m) (N : News h₀ L s.heap news) (hsub : ∀ q ∈ nd, q ∈ news) (hl : s.heap.IsList l vs.toArray)
    (hd : DatAll nd vs (xs.map pdPl)) (h64 : xs.length < 64) (hnd : (xs.map prank).Nodup)
    (hok : ∀ x ∈ xs, ∀ y ∈ xs, (if placeN x = placeN y then decide (x < y) else decide (placeN x < placeN y)) = decide (prank x < prank y))
    (h : ∀ D c h' (ws : List Value) (ys : List Int), Fr h₀ L h' m → News h₀ L h' ((D, listOf (List.toArray ws) c) :: news) → (∀ q ∈ news, q.1 < D) → DatAll nd ws (ys.map pdPl) → ys.Perm xs → (ys.map prank).Pairwise (· < ·) → Q (.ref D) { s with heap := h' }) :
    wpAny (model prog w) A (call (.builtin "sorted") [.ref l]) Q E s := by
  refine sorted_dat (κ := tuples' false) pdPl prank F N hl hd h64 hnd (fun h2 s' C N' hc => ?_) (fun s' C v u x y hx hy N' dx dy hc => ?_) h
  · obtain ⟨fs, k1, k2, k3⟩ := pl_firsts N' (hd.mono hsub)
    rw [hd.length, List.length_map] at h2
    refine kat_kind (T := .type "tuple") k1 (by omega) (fun v hv => ?_) rfl hc
    obtain ⟨b, o, rfl, ho, hcl⟩ := k3 v hv
    exact hcl ▸ (Looks.ld ho).andThen .now
  · obtain ⟨a, b, t, u, t', i, j, rfl, hma, hmb⟩ := dat_pl (dx.mono hsub)
    obtain ⟨a2, b2, t2, u2, t2', i2, j2, rfl, hma2, hmb2⟩ := dat_pl (dy.mono hsub)
    have hok' := hok x hx y hy
    refine kat_lt (N' _ hma).1 rfl (N' _ hma2).1 rfl ?_
    refine kat_cons (tup2G hu (N' _ hmb).1 (N' _ hmb2).1 ?_)
    by_cases hb : placeN x = placeN y ∧ x = y
    · rw [decide_eq_true hb]
      refine kat_yes (kat_cons (wpAny_eqBool_int ?_))
      rw [if_pos hb.1] at hok'
      rw [hb.2, beq_self_eq_true]
      refine kat_yes (kat_nil ?_)
      rw [← hok', hb.2, decide_eq_false (Int.lt_irrefl _)] at hc
      exact hc
    · rw [decide_eq_false hb]
      refine kat_no (kat_one _ _ (lt2G (by omega) (N' _ hmb).1 (N' _ hmb2).1 ?_))
      rw [hok']
      exact hc
end
end Mine

end
local macro_rules | `(tactic| walk_at "zz") => `(tactic| fail)
section
open PySem PySem.W PyProof.Rows PySem.Calls
open AutoSeq1 (wpAny_loadPart')
namespace Mine
theorem enum_newT (l : Addr) (items : Array Value) (n : Nat) (dct : Option Addr) (sl : Array (Option Value)) :
    Meets (Builtin.«enumerate.__new__» ⟨[.type "enumerate", .ref l], []⟩) (fun _ R s => s.heap.get? l = some { cls := .type "tuple", dict := dct, data := .seq items n, slots := sl } ∧
      R (.ok (.ret (.ref (s.heap.push { cls := .type "tuple_iterator", data := .fields #[.ref l, .int 0 0] }).objs.size)))
        { s with heap := (s.heap.push { cls := .type "tuple_iterator", data := .fields #[.ref l, .int 0 0] }).push { cls := .type "enumerate", data := .fields #[.none, .bool false, .ref s.heap.objs.size, rawInt 0, .none, .none] } }) :=
  .of_wp fun prog w A R s h => by
    obtain ⟨hp, g, d, tk, os⟩ := s; obtain ⟨hl, h⟩ := h
    have hsub := sub_enumerate
    have hL : Heap.IsTuple (Shared.heap ⟨hp, g, d, tk, os⟩) l items := ⟨_, hl, rfl, n, rfl⟩
    wp_walk using wpAny_loadPart' hl
    refine wpAny_stack_any fun st => wpAny_pure ?_
    split
    · rename_i c _ _ _ _ _
      cases (c == Value.type "enumerate")
      · wp_walk using wpAny_loadPart' hl, wpAny_pyIter_tuple hL
        exact ⟨_, rfl, h⟩
      · wp_walk using wpAny_loadPart' hl, wpAny_pyIter_tuple hL
        exact ⟨_, rfl, h⟩
    · wp_walk using wpAny_loadPart' hl, wpAny_pyIter_tuple hL
      exact ⟨_, rfl, h⟩
section
variable {prog : Program} {w : World} {A : Around} {E : Value → Shared → Prop} {s : Shared}
theorem call_enumT {l : Addr} {items : Array Value} {Q : Value → Shared → Prop} (hL : s.heap.IsTuple l items)
    (h : ∀ h', IsEnum h' (s.heap.objs.size + 1) s.heap.objs.size 0 .none → h'.IsTupleIter s.heap.objs.size l 0 → h'.objs.size = s.heap.objs.size + 2 →
      (∀ b o, s.heap.get? b = some o → h'.get? b = some o) → Q (.ref (s.heap.objs.size + 1)) { s with heap := h' }) :
    wpAny (model prog w) A (call (.type "enumerate") [.ref l]) Q E s := by
  obtain ⟨⟨c, dct, dt, sl⟩, hl, hc, n, hd⟩ := hL
  replace hc : c = .type "tuple" := hc
  replace hd : dt = .seq items n := hd
  subst hc hd
  refine callType_new F.called_enumerate (by decide) (F.typeCall_enumerate_1 _) (F.newCall_enumerate_1 _) (fun obj => F.args_object_init_2 obj _) F.entry_enumerate_new
    (enum_newT l items n dct sl) ⟨hl, ?_⟩
  have hz : (s.heap.push { cls := .type "tuple_iterator", data := .fields #[.ref l, .int 0 0] }).objs.size = s.heap.objs.size + 1 := Heap.size_push ..
  show _ ∧ _
  rw [hz]
  have he : IsEnum ((s.heap.push { cls := .type "tuple_iterator", data := .fields #[.ref l, .int 0 0] }).push
      { cls := .type "enumerate", data := .fields #[.none, .bool false, .ref s.heap.objs.size, rawInt 0, .none, .none] }) (s.heap.objs.size + 1) s.heap.objs.size 0 .none := by
    have := Heap.get?_push_size (s.heap.push { cls := .type "tuple_iterator", data := .fields #[.ref l, .int 0 0] })
      (o := { cls := .type "enumerate", data := .fields #[.none, .bool false, .ref s.heap.objs.size, rawInt 0, .none, .none] }) rfl
    rw [hz] at this; exact this
  refine ⟨⟨_, he, rfl⟩, h _ he ⟨_, Heap.get?_push_of_some _ (Heap.get?_push_size _ rfl), rfl, rfl⟩ (by rw [Heap.size_push, hz]) fun b o x => Heap.get?_push_of_some _ (Heap.get?_push_of_some _ x)⟩
theorem nextOf_tup_item {it t : Addr} {i : Nat} {items : Array Value} {x : Value} {Q : Value → Shared → Prop} (hit : s.heap.IsTupleIter it t i)
    (ht : s.heap.IsTuple t items) (hx : items[i]? = some x)
    (hQ : ∀ h', h'.IsTupleIter it t (i + 1) → Heap.SameBut it s.heap h' → Q x { s with heap := h' }) :
    wpAny (model prog w) A (Builtin.SmallTypes.nextOf (.ref it)) Q E s := by
  obtain ⟨o, ho, hc, hd⟩ := id hit
  obtain ⟨ol, hol, _, nl, hdl⟩ := ht
  unfold Builtin.SmallTypes.nextOf
  refine wpAny_bind (wpAny_callSpecial?_slot (name := Str.ofString "__next__") hit.typeIs F.slot_tuple_iterator_next
    (wpAny_call_entry F.slot_tuple_iterator_next hit.typeIs F.entry_tuple_iterator_next ?_ (F.args_tuple_iterator_next_1 _)))
  show wpAny _ _ (field (.ref it) 0 >>= _) _ _ s
  refine wpAny_bind (wpAny_field ho hd (x := .ref t) rfl ?_)
  show wpAny _ _ (if (Value.ref t == Value.none) = true then _ else _) _ _ s
  rw [if_neg (show ¬ ((Value.ref t == Value.none) = true) from Bool.false_ne_true)]
  show wpAny _ _ (field (.ref it) 1 >>= _) _ _ s
  refine wpAny_bind (wpAny_field ho hd (x := .int i 0) rfl ?_)
  show wpAny _ _ (seqItems? (.ref t) >>= _) _ _ s
  refine wpAny_bind (wpAny_seqItems hol hdl ?_)
  simp only [Int.toNat_natCast, hx]
  refine wpAny_bind (wpAny_setField ho hd (by simp) (wpAny_pure ⟨x, rfl, wpAny_pure (hQ _ ?_ (Heap.SameBut.update ..))⟩))
  exact ⟨_, Heap.get?_update_self _ ho (Obj.isFreed_of_fields (Obj.data_mapFields hd _)), (Obj.cls_mapFields ..).trans hc, by
    rw [Obj.data_mapFields hd]; simp [rawInt]⟩
theorem nextOf_tup_end {it t : Addr} {i : Nat} {items : Array Value} {Q : Value → Shared → Prop} (hh : A.handled = none)
    (hit : s.heap.IsTupleIter it t i) (ht : s.heap.IsTuple t items) (hx : items[i]? = none)
    (hE : ∀ h' e, Heap.ExtBut it s.heap h' → (∃ o, h'.get? e = some o ∧ o.cls = .type "StopIteration") → E (.ref e) { s with heap := h' }) :
    wpAny (model prog w) A (Builtin.SmallTypes.nextOf (.ref it)) Q E s := by
  obtain ⟨o, ho, hc, hd⟩ := id hit
  obtain ⟨ol, hol, _, nl, hdl⟩ := ht
  unfold Builtin.SmallTypes.nextOf
  refine wpAny_bind (wpAny_callSpecial?_slot (name := Str.ofString "__next__") hit.typeIs F.slot_tuple_iterator_next
    (wpAny_call_entry F.slot_tuple_iterator_next hit.typeIs F.entry_tuple_iterator_next ?_ (F.args_tuple_iterator_next_1 _)))
  show wpAny _ _ (field (.ref it) 0 >>= _) _ _ s
  refine wpAny_bind (wpAny_field ho hd (x := .ref t) rfl ?_)
  show wpAny _ _ (if (Value.ref t == Value.none) = true then _ else _) _ _ s
  rw [if_neg (show ¬ ((Value.ref t == Value.none) = true) from Bool.false_ne_true)]
  show wpAny _ _ (field (.ref it) 1 >>= _) _ _ s
  refine wpAny_bind (wpAny_field ho hd (x := .int i 0) rfl ?_)
  show wpAny _ _ (seqItems? (.ref t) >>= _) _ _ s
  refine wpAny_bind (wpAny_seqItems hol hdl ?_)
  simp only [Int.toNat_natCast, hx]
  refine wpAny_bind (wpAny_rule (wpAny_bind (wpAny_setField ho hd (by simp) ?_)))
  show wpAny _ _ (newExc (.type "StopIteration") [] >>= _) _ _ _
  refine wpAny_bind ?_
  simp only [newExc, newTuple]
  refine wpAny_bind (wpAny_newObj_type ?_ (by size_fits))
  refine wpAny_bind (m := firstArgMember _ _) (wpAny_of_eq (a := Value.none) (by first | rfl | (simp only [firstArgMember]; rfl)) ?_)
  refine wpAny_newObj_type ?_ (by size_fits)
  simp only [raiseNew]
  refine wpAny_bind (wpAny_handled ?_)
  first | rw [show A.in1.handled = none from hh] | rw [hh]
  refine wpAny_bind (wpAny_pure (wpAny_throw ?_))
  exact hE _ _ (((Heap.SameBut.update ..).extBut.push _).push _) ⟨_, Heap.get?_push_size _ rfl, rfl⟩
end
theorem tupI_at {h h' : Heap} {a t i} (x : h.IsTupleIter a t i) (e : ∀ o, h.get? a = some o → h'.get? a = some o) : h'.IsTupleIter a t i := let ⟨o, ho, r⟩ := x; ⟨o, e _ ho, r⟩
theorem draws_tup {prog : Program} {w : World} {A : Around} (hh : A.handled = none) (it l : Addr) (hne : l ≠ it) (items : Array Value) :
    Draws prog w A it [it, l] items.size (fun i v => items[i]? = some v) (fun i h => h.IsTupleIter it l i ∧ h.IsTuple l items) where
  live := fun _ _ st => let ⟨o, ho, _⟩ := st.1; ⟨o, ho⟩
  frame := fun _ _ _ st hk => ⟨tupI_at st.1 fun o e => hk it (by simp) o e, st.2.at fun o e => hk l (by simp) o e⟩
  item := fun i s Q E hi st hQ => by
    refine nextOf_tup_item st.1 st.2 (x := items[i]) (by simp [hi]) fun h' hit' hs' => ?_
    exact hQ _ h' s.toks (by simp [hi]) ⟨hit', st.2.extBut hs'.extBut hne⟩ hs'
  done := fun s Q E st hE => nextOf_tup_end hh st.1 st.2 (by simp) hE
end Mine

end
local macro_rules | `(tactic| walk_at "zz") => `(tactic| fail)
section
open PySem PySem.W PyProof.Rows PySem.Calls PyProof.Rows.LCg
namespace Mine
section
variable {prog : Program} {w : World} {A : Around} {E : Value → Shared → Prop} {h₀ : Heap} {L : Addr} {m : Str → Option Value} {env : Env}
def upTo (p : Nat → Bool) (i : Nat) : List Int := ((List.range i).filter p).map Int.ofNat
theorem upTo_succ (p : Nat → Bool) (i : Nat) : upTo p (i + 1) = if p i = true then upTo p i ++ [(i : Int)] else upTo p i := by
  unfold upTo
  rw [List.range_succ, List.filter_append]
  by_cases h : p i = true
  · rw [if_pos h]; simp [List.filter, h]
  · rw [if_neg h]; simp [List.filter, h]
theorem upTo_len (p : Nat → Bool) (i : Nat) : (upTo p i).length ≤ i := by
  unfold upTo
  rw [List.length_map]
  exact Nat.le_trans (List.length_filter_le _ _) (by simp)
set_option maxHeartbeats 1000000 in
theorem comp_enum {elt ct iter : Expr} {xa xb : Str} {pa pb tp : Pos} {kk : Nat} {scope : Scope} {cl : List (Str × Addr)} {pos : Pos} {s : Shared} {e it T : Addr} {items : Array Value} {base : List (Addr × Obj)} {p : Nat → Bool} {Q : Value → Shared → Prop}
    (hh : A.handled = none) (hcell : ∀ y ∈ scope.names, y.2 ≠ .cell) (hkind : scope.kind = .function) (ha : scope.names.lookup xa = some .local) (hb : scope.names.lookup xb = some .local) (hab : xa ≠ xb)
    (F : Fr h₀ L s.heap m) (N : News h₀ L s.heap base) (hE : IsEnum s.heap e it 0 .none) (hI : s.heap.IsTupleIter it T 0) (hT : s.heap.IsTuple T items) (hn : items.size ≤ 8)
    (hei : e ≠ it) (heT : e ≠ T) (hTi : T ≠ it) (hLe : L ≠ e) (hLi : L ≠ it) (he₀ : h₀.get? e = none) (hi₀ : h₀.get? it = none) (off : ∀ q ∈ base, q.1 ≠ e ∧ q.1 ≠ it)
    (htest : ∀ i x C h tk m₂ (Q' : Bool → Shared → Prop) (E' : Value → Shared → Prop), items[i]? = some x → h.Ns C m₂ → m₂ xb = some x → C ≠ L → h₀.get? C = none → Fr h₀ L h m → News h₀ L h base → (∀ tk', Q' (p i) { s with heap := h, toks := tk' }) →
      wpAny (model prog w) A (isTrue ct (compEnvC scope cl C env) (eval ct (compEnvC scope cl C env))) Q' E' { s with heap := h, toks := tk })
    (helt : ∀ x C h tk m₂ (Q' : Value → Shared → Prop) (E' : Value → Shared → Prop), h.Ns C m₂ → m₂ xa = some x → Q' x { s with heap := h, toks := tk } →
      wpAny (model prog w) A (eval elt (compEnvC scope cl C env)) Q' E' { s with heap := h, toks := tk })
    (fin : ∀ D h tk ys, Fr h₀ L h m → News h₀ L h ((D, lst ys) :: base) → IntsAre ys (upTo p items.size) → Q (.ref D) { s with heap := h, toks := tk }) :
    wpAny (model prog w) A (pyIter (.ref e)) (fun it s₂ => wpAny (model prog w) A (newList []) (fun acc s₃ => wpAny (model prog w) A (newFunctionEnv scope env.globals cl [] env.qual none .none (some env)) (fun cenv s₄ =>
      codeAny (model prog w) A (.compStart (.ListComp elt [⟨.Tuple [.Name xa pa, .Name xb pb] kk tp, iter, [ct], 0⟩] scope pos) 0 it acc { cenv with scope := relabel scope env }) (compPost (model prog w) A E none Q acc cenv.locals) s₄) E s₃) E s₂) E s := by
  refine wpAny_pyIter_enum hE ?_
  have helt' : e < s.heap.objs.size := Heap.lt_size hE
  have hilt : it < s.heap.objs.size := by obtain ⟨_, x, _⟩ := hI; exact Heap.lt_size x
  have hTlt : T < s.heap.objs.size := by obtain ⟨_, x, _⟩ := hT; exact Heap.lt_size x
  refine wpAny_newObj_type (wpAny_newFunctionEnv hcell (by intro y hy; simp at hy) (fun h₁ hns₁ hsb₁ => ?_) hkind)
  dsimp only at hns₁ hsb₁ ⊢
  generalize hH2 : s.heap.push { cls := .type "list", data := .seq #[] } = H2 at hns₁ hsb₁ ⊢
  have hC : H2.objs.size = s.heap.objs.size + 1 := by rw [← hH2, Heap.size_push]
  have up2 : ∀ b o, s.heap.get? b = some o → H2.get? b = some o := fun b o e => hH2 ▸ Heap.get?_push_of_some _ e
  have up3 : ∀ b o, H2.get? b = some o → h₁.get? b = some o := fun b o e => hsb₁.extBut b o (Nat.ne_of_lt (Heap.lt_size e)) (Heap.get?_push_of_some _ e)
  have old : ∀ b o, s.heap.get? b = some o → h₁.get? b = some o := fun b o e => up3 _ _ (up2 _ _ e)
  have hacc : h₁.get? s.heap.objs.size = some (lst []) := up3 _ _ (hH2 ▸ Heap.get?_push_size _ rfl)
  have fresh₀ : ∀ a, s.heap.objs.size ≤ a → h₀.get? a = none := fun a ha => by
    cases e : h₀.get? a with
    | none => rfl
    | some o' => exact absurd (Heap.lt_size (F.keep a o' e)) (Nat.not_lt.mpr ha)
  have hLlt : L < s.heap.objs.size := F.ns.lt
  have offlt : ∀ q ∈ base, q.1 < s.heap.objs.size := fun q hq => Heap.lt_size (N q hq).1
  generalize hDe : s.heap.objs.size = D at *
  generalize hCe : H2.objs.size = C at *
  have hD₀ := fresh₀ D (Nat.le_refl _)
  have hC₀ := fresh₀ C (by rw [hC]; exact Nat.le_succ _)
  have lC : ∀ b, b < D → b ≠ C := fun b hb => by rw [hC]; exact Nat.ne_of_lt (Nat.lt_succ_of_lt hb)
  have lD : ∀ b, b < D → b ≠ D := fun b hb => Nat.ne_of_lt hb
  have hDC : D ≠ C := by rw [hC]; exact Nat.ne_of_lt (Nat.lt_succ_self _)
  have W := (WalksT.enumerateD (draws_tup (prog := prog) (w := w) (A := A.in1) hh it T hTi items) e hei (by simp [hei, heT]) (by simp)).toU
  have fpD : D ∉ [e, it, T] := fun hm => by
    rcases List.mem_cons.mp hm with q | hm
    · exact lD e helt' q.symm
    · rcases List.mem_cons.mp hm with q | hm
      · exact lD it hilt q.symm
      · exact lD T hTlt (List.mem_singleton.mp hm).symm
  have fpC : C ∉ [e, it, T] := fun hm => by
    rcases List.mem_cons.mp hm with q | hm
    · exact lC e helt' q.symm
    · rcases List.mem_cons.mp hm with q | hm
      · exact lC it hilt q.symm
      · exact lC T hTlt (List.mem_singleton.mp hm).symm
  have wr : ∀ b, b ≠ e → b ≠ it → b ∉ [e, it] := fun b h1 h2 hm => by
    rcases List.mem_cons.mp hm with q | hm
    · exact h1 q
    · exact h2 (List.mem_singleton.mp hm)
  have wr₀ : ∀ b o, h₀.get? b = some o → b ∉ [e, it] := fun b o e' => wr b (fun q => by rw [q, he₀] at e'; cases e') (fun q => by rw [q, hi₀] at e'; cases e')
  have loop : ∀ s₃ : Shared, s₃ = { s with heap := h₁, toks := s.toks + ([] : List (Str × Value)).length } →
      codeAny (model prog w) A (.compLoop (.ListComp elt [⟨.Tuple [.Name xa pa, .Name xb pb] kk tp, iter, [ct], 0⟩] scope pos) 0 (.ref e) (.ref D) (compEnvC scope cl C env))
        (compPost (model prog w) A E none Q (.ref D) C) s₃ := by
    rintro s₃ rfl
    refine kct_loop
      (fun k s' => ∃ h' tk i ys m', s' = { s with heap := h', toks := tk } ∧ i ≤ items.size ∧ k = items.size + 1 - i ∧ ((∃ old, IsEnum h' e it i old) ∧ (h'.IsTupleIter it T i ∧ h'.IsTuple T items)) ∧ Fr h₀ L h' m ∧ h'.Ns C m' ∧ News h₀ L h' ((D, lst ys) :: base) ∧ IntsAre ys (upTo p i)) ?_ (items.size + 1)
      ⟨h₁, _, 0, [], _, rfl, Nat.zero_le _, rfl, ⟨⟨_, old _ _ hE⟩, tupI_at hI fun o e => old _ o e, hT.at fun o e => old _ o e⟩, F.keeps old, hns₁, fun q hq => ?_, .nil⟩
    · rintro k s' ⟨h', tk, i, ys, m', rfl, hi, rfl, hst, F', hn', N', hJ⟩
      have step : ∀ h₂ : Heap, (∀ b o, b ∉ [e, it] → h'.get? b = some o → h₂.get? b = some o) → Fr h₀ L h₂ m ∧ h₂.Ns C m' ∧ News h₀ L h₂ ((D, lst ys) :: base) := fun h₂ hk => by
        refine ⟨⟨F'.ns.at' fun o x => hk _ o (wr L hLe hLi) x, fun b o x => hk b o (wr₀ b o x) (F'.keep b o x), F'.above⟩, hn'.at' fun o x => hk _ o (wr C (Ne.symm (lC e helt')) (Ne.symm (lC it hilt))) x, fun q hq => ⟨hk _ _ ?_ (N' q hq).1, (N' q hq).2⟩⟩
        rcases List.mem_cons.mp hq with rfl | hq
        · exact wr D (Ne.symm (lD e helt')) (Ne.symm (lD it hilt))
        · exact wr _ (off q hq).1 (off q hq).2
      by_cases hlt : i < items.size
      · refine W.item i _ _ _ hlt hst fun T' vals h₂ tk₂ hP hT' hM hk₂ => ?_
        obtain ⟨t, x, hx, rfl⟩ := hP
        refine W.go _ _ _ i T' _ _ _ hM fun h₃ hst₃ hk₃ => ?_
        have hk23 : ∀ b o, b ∉ [e, it] → h'.get? b = some o → h₃.get? b = some o := fun b o q x => hk₃ b o q (hk₂ b o q x)
        obtain ⟨F₃, hn₃, N₃⟩ := step h₃ hk23
        have hT₃ : h₃.IsTuple T' #[.int i t, x] := hT'.at fun o q => hk₃ _ o (W.apart i T' _ hM) q
        refine kcp_assign hh hT₃ (lookup_relabel_local ha) (lookup_relabel_local hb) (by simp [compEnvC, relabel, hkind]) hn₃ fun h₄ tk₄ hn₄ hk₄ => ?_
        have hLC : L ≠ C := lC L hLlt
        have F₄ : Fr h₀ L h₄ m := ⟨F₃.ns.at' fun o q => hk₄ _ o hLC q, fun b o q => hk₄ b o (fun q' => by have q'' : b = C := q'; rw [q'', hC₀] at q; cases q) (F₃.keep b o q), F₃.above⟩
        have N₄ : News h₀ L h₄ ((D, lst ys) :: base) := fun q hq => ⟨hk₄ _ _ (by
          rcases List.mem_cons.mp hq with rfl | hq
          · exact hDC
          · exact lC _ (offlt q hq)) (N₃ q hq).1, (N₃ q hq).2⟩
        have hst₄ := W.frame _ _ _ hst₃ fun b hb o q => hk₄ b o (fun q' => by have q'' : b = C := q'; rw [q''] at hb; exact fpC hb) q
        refine htest i x C h₄ _ _ _ _ hx hn₄ (if_pos rfl) (Ne.symm hLC) hC₀ F₄ (fun q hq => N₄ q (.tail _ hq)) fun tk₅ => ?_
        by_cases hp : p i = true
        · rw [if_pos hp]
          refine helt (.int i t) C h₄ _ _ _ _ hn₄ (by show (if xa = xb then _ else _) = _; rw [if_neg hab, if_pos rfl]) ?_
          refine append_at (hsz := by rw [List.size_toArray, hJ.length, sizeLine_eq]; have := upTo_len p i; omega) (N₄ (D, lst ys) (.head _)).1 fun h₆ hs₆ hD₆ => ?_
          refine ⟨items.size + 1 - (i + 1), by omega, h₆, _, i + 1, ys ++ [.int i t], _, rfl, hlt, rfl, W.frame _ _ _ hst₄ fun b hb o q => hs₆.extBut b o (fun q' => fpD (q' ▸ hb)) q, F₄.change hs₆ (Ne.symm (lD L hLlt)) hD₀, hn₄.sameBut hs₆ (Ne.symm hDC), fun q hq => ?_, ?_⟩
          · rcases List.mem_cons.mp hq with rfl | hq
            · exact ⟨hD₆.trans (congrArg some (lst_snoc ys _)), Ne.symm (lD L hLlt), hD₀⟩
            · exact ⟨hs₆.extBut _ _ (lD _ (offlt q hq)) (N₄ q (.tail _ hq)).1, (N₄ q (.tail _ hq)).2⟩
          · rw [upTo_succ, if_pos hp]; exact ints_snoc hJ _ _
        · rw [if_neg hp]
          exact ⟨items.size + 1 - (i + 1), by omega, h₄, _, i + 1, ys, _, rfl, hlt, rfl, hst₄, F₄, hn₄, N₄, by rw [upTo_succ, if_neg hp]; exact hJ⟩
      · obtain rfl : i = items.size := Nat.le_antisymm hi (Nat.not_lt.mp hlt)
        refine W.done _ _ _ hst fun h₂ tk₂ hk₂ => ?_
        obtain ⟨F₂, hn₂, N₂⟩ := step h₂ hk₂
        refine ⟨_, hn₂, fun h'' hs'' => fin D h'' tk₂ ys (F₂.change hs'' (Ne.symm (lC L hLlt)) hC₀) (fun q hq => ⟨hs''.extBut _ _ ?_ (N₂ q hq).1, (N₂ q hq).2⟩) hJ⟩
        rcases List.mem_cons.mp hq with rfl | hq
        · exact hDC
        · exact lC _ (offlt q hq)
    · rcases List.mem_cons.mp hq with rfl | hq
      · exact ⟨hacc, Ne.symm (lD L hLlt), hD₀⟩
      · exact ⟨old _ _ (N q hq).1, (N q hq).2⟩
  exact codeAny_compStart_list (loop _ rfl) (wpAny_pyIter_enum (old _ _ hE) (loop _ rfl))
end
end Mine

end
local macro_rules | `(tactic| walk_at "zz") => `(tactic| fail)
section
open PySem PySem.W PyProof.Rows PyProof.Rows.LCg
namespace Mine
local macro_rules | `(tactic| k_room) => `(tactic| (simp only [depth_under_make, depth_under_kw, depth_in1, depth_deeper, depth_caller, aup_depth]; decide))
theorem news_cons_of {h₀ h : Heap} {L : Addr} {news : List (Addr × Obj)} (N : News h₀ L h news) {a : Addr} {o : Obj} (e : h.get? a = some o) (h1 : a ≠ L) (h2 : h₀.get? a = none) : News h₀ L h ((a, o) :: news) := fun q hq => by
  rcases List.mem_cons.mp hq with rfl | hq
  · exact ⟨e, h1, h2⟩
  · exact N q hq
theorem item0 {prog : Program} {w : World} {A : Around} {E : Value → Shared → Prop} {s : Shared} {l : Addr} {v : Value} {r : List Value} {u : Tok} {value slice : Expr} {Q : Value → Shared → Prop} (hl : s.heap.IsList l (v :: r).toArray) (h : Q v s)
    (hs : subscripted slice false (.ref l) (.int 0 u) = operate [.ref l, .int 0 u] (getItem (.ref l) (.int 0 u)) := by with_unfolding_all rfl) :
    wpAny (model prog w) A (subscriptTail value slice (.ref l) (.int 0 u)) Q E s :=
  tail_any hl.typeIs slot_list_getitem.lookup (wpAny_getItem_list hl (Int.le_refl 0) (by decide) rfl h) hs
def halfP (n : Int) (i : Nat) : Bool := match i with | 0 => decide (-128 ≤ n) | 1 => decide (-32768 ≤ n) | 2 => decide (-2147483648 ≤ n) | _ => decide (-9223372036854775808 ≤ n)
def halfK (n : Int) : Int := if -128 ≤ n then 0 else if -32768 ≤ n then 1 else if -2147483648 ≤ n then 2 else 3
theorem upTo_half {n : Int} (h : -9223372036854775808 ≤ n) : ∃ r, upTo (halfP n) 4 = halfK n :: r := by
  have e0 : upTo (halfP n) 0 = [] := rfl
  have e1 := upTo_succ (halfP n) 0
  have e2 := upTo_succ (halfP n) 1
  have e3 := upTo_succ (halfP n) 2
  have e4 := upTo_succ (halfP n) 3
  simp only [halfP, decide_eq_true_eq] at e1 e2 e3 e4
  unfold halfK
  rw [if_pos h] at e4
  by_cases c1 : -128 ≤ n
  · rw [if_pos c1] at e1 ⊢
    rw [if_pos (by omega)] at e2 e3
    rw [e4, e3, e2, e1, e0]; exact ⟨_, rfl⟩
  · rw [if_neg c1] at e1 ⊢
    by_cases c2 : -32768 ≤ n
    · rw [if_pos c2] at e2 ⊢
      rw [if_pos (by omega)] at e3
      rw [e4, e3, e2, e1, e0]; exact ⟨_, rfl⟩
    · rw [if_neg c2] at e2 ⊢
      by_cases c3 : -2147483648 ≤ n
      · rw [if_pos c3] at e3 ⊢
        rw [e4, e3, e2, e1, e0]; exact ⟨_, rfl⟩
      · rw [if_neg c3] at e3 ⊢
        rw [e4, e3, e2, e1, e0]; exact ⟨_, rfl⟩
theorem half_place {n : Int} (h : n < -32) : halfK n + 1 = placeN n := by
  unfold halfK placeN
  (repeat' split) <;> omega
theorem comp_open {prog : Program} {w : World} {A : Around} {E : Value → Shared → Prop} {s : Shared} {env : Env} {elt ct iter target : Expr} {scope : Scope} {cl : List (Str × Addr)} {pos : Pos} {Q : Value → Shared → Prop}
    (h : wpAny (model prog w) A (eval iter env) (fun x s₁ => wpAny (model prog w) A (pyIter x) (fun it s₂ => wpAny (model prog w) A (newList []) (fun acc s₃ =>
      wpAny (model prog w) A (newFunctionEnv scope env.globals cl [] env.qual none .none (some env)) (fun cenv s₄ =>
        codeAny (model prog w) A (.compStart (.ListComp elt [⟨target, iter, [ct], 0⟩] scope pos) 0 it acc { cenv with scope := relabel scope env }) (compPost (model prog w) A E none Q acc cenv.locals) s₄) E s₃) E s₂) E s₁) E s)
    (hs : ∀ x, foldedSetIterable iter env x = pure x) (hclos : closureFor scope env = pure cl) (hkind : scope.kind = .function) (hnames : ∀ x ∈ scope.names, x.2 = .local → scope.names.lookup x.1 = some .local) :
    wpAny (model prog w) A (eval (.ListComp elt [⟨target, iter, [ct], 0⟩] scope pos) env) Q E s := by
  rw [eval_ListComp]
  exact wpAny_comprehension_free (use := none) rfl hs hclos hkind hnames h
set_option maxHeartbeats 4000000 in
theorem place_k : ∀ (w : World) (p : Program) (loose : List Str) (mean : ExcName → Option Value) (mg mb : Str → Option Value) (A₀ : Around) (base h₀ : Heap) (L a : Addr) (m : Str → Option Value) (cn : Str) (cs : Scope) (ccd : Value) (outer : List Env) (news : List (Addr × Obj)) (s : Shared) (Q : Value → Shared → Prop) (E : Value → Shared → Prop) (n : Int) (tn : Tok),
    Below A₀ base outer h₀ → Fr h₀ L s.heap m → (KF w.params).In h₀ → News h₀ L s.heap news → Top p loose mean mg mb h₀ → inR n → (∀ T x t1 h' tk, x = placeN n → Fr h₀ L h' m → News h₀ L h' ((T, tupO [.int x t1, .int n tn]) :: news) → (∀ q ∈ news, q.1 < T) → Q (.ref T) { s with heap := h', toks := tk }) →
    wpAny (model PySem.Challenge.rw_vn0026_01.prog w) (Aup (envOf cn (mkSc cs) L a ccd :: outer)) (call (.ref 1261) [.int n tn]) Q E s := by
  k_fill
  w_on
  intro w p loose mean mg mb A₀ base h₀ L a m cn cs ccd outer news s Q E n tn B F X N T hn hQ
  obtain ⟨hh, g, d, t, os⟩ := s
  have hz := hn.1
  have hz2 := hn.2
  have hc : 0 ≤ n ∨ (-32 ≤ n ∧ n < 0) ∨ n < -32 := by omega
  rcases hc with c | ⟨c1, c2⟩ | c
  · k_steps
    rename Fr h₀ L _ m => F9
    rename News h₀ L _ _ => N9
    rename _ ∧ AllLt _ news => l9
    exact hQ _ _ _ _ _ (by unfold placeN; rw [if_pos c]) F9 (fun q hq => N9 q (by rcases List.mem_cons.mp hq with rfl | hq; exact .head _; repeat (first | exact hq | apply List.mem_cons_of_mem))) (allLt_mem l9.2)
  · k_steps
    rename Fr h₀ L _ m => F9
    rename News h₀ L _ _ => N9
    rename _ ∧ AllLt _ news => l9
    exact hQ _ _ _ _ _ (by unfold placeN; rw [if_neg (by omega), if_pos c1]) F9 (fun q hq => N9 q (by rcases List.mem_cons.mp hq with rfl | hq; exact .head _; repeat (first | exact hq | apply List.mem_cons_of_mem))) (allLt_mem l9.2)
  · iterate 29 (walk1; (try dsimp only))
    refine comp_open ?_ (by intro _; with_unfolding_all rfl) (by with_unfolding_all rfl) (by rfl) (by decide)
    k_steps
    rename Fr _ _ _ (bindL _ _ _) => F9
    rename News _ _ _ (_ :: _ :: news) => N9
    dsimp only at F9 N9 ⊢
    refine call_enumT ⟨_, (N9 _ (.head _)).1, rfl, _, rfl⟩ fun h2 hE hI hsz hk => ?_
    have hlt := fun q hq => Heap.lt_size (N9 q hq).1
    have hDl := hlt _ (.head _)
    have hLl := F9.ns.lt
    dsimp only at hE hI hsz hk hlt hDl hLl ⊢
    refine comp_enum (p := halfP n) rfl (by decide) rfl rfl rfl (by decide) (F9.keeps hk) (N9.grown hk) hE hI ⟨_, hk _ _ (N9 _ (.head _)).1, rfl, _, rfl⟩ (by exact Nat.le_of_ble_eq_true rfl) (Nat.succ_ne_self _) (Nat.ne_of_gt (Nat.lt_succ_of_lt hDl)) (Nat.ne_of_lt hDl) (Nat.ne_of_lt (Nat.lt_succ_of_lt hLl)) (Nat.ne_of_lt hLl)
      (Heap.get?_none_of_le (Nat.le_trans F9.above (Nat.le_succ_of_le (Nat.le_of_lt hLl)))) (next_is_new F9) (fun q hq => ⟨Nat.ne_of_lt (Nat.lt_succ_of_lt (hlt q hq)), Nat.ne_of_lt (hlt q hq)⟩) ?_ ?_ ?_
    · intro i x C h tk m₂ Q' E' hx hns hm hCL hC0 F' N' hq
      obtain ⟨oC, heC, hoC⟩ := ns_obj hns
      have N₂ := news_cons_of N' heC hCL hC0
      clear hlt N9 F9 hE hI hk N
      rcases i with _ | _ | _ | _ | i
      · obtain rfl : Value.int 1 _ = x := Option.some.inj hx
        k_steps
        exact hq _
      · obtain rfl : Value.int 2 _ = x := Option.some.inj hx
        k_steps
        exact hq _
      · obtain rfl : Value.int 4 _ = x := Option.some.inj hx
        k_steps
        exact hq _
      · obtain rfl : Value.int 8 _ = x := Option.some.inj hx
        k_steps
        exact hq _
      · exact absurd hx (by simp)
    · intro x C h tk m₂ Q' E' hns hm hq
      exact ldVarK hns hm hq
    · intro D h tk ys F' N' hys
      obtain ⟨r, hr⟩ := upTo_half hn.1
      have hys2 : IntsAre ys (halfK n :: r) := hr ▸ hys
      clear hys hr hlt N9 F9 hE hI hk N
      cases hys2 with
      | cons _ tt hys2 =>
      dsimp only
      refine wpAny_Constant_int ?_
      refine item0 ⟨_, (N' _ (.head _)).1, rfl, _, rfl⟩ ?_
      k_steps
      rename Fr h₀ L _ m => F9
      rename News h₀ L _ _ => N9
      rename _ ∧ _ ∧ _ ∧ AllLt _ news => l9
      exact hQ _ _ _ _ _ (half_place c) F9 (fun q hq => N9 q (by rcases List.mem_cons.mp hq with rfl | hq; exact .head _; repeat (first | exact hq | apply List.mem_cons_of_mem))) (allLt_mem l9.2.2.2)
theorem place_K {w : World} {p : Program} {loose : List Str} {mean : ExcName → Option Value} {mg mb : Str → Option Value} {A₀ : Around} {base h₀ : Heap} {L a : Addr} {m : Str → Option Value} {cn : Str} {cs : Scope} {ccd : Value} {outer : List Env} {news : List (Addr × Obj)} {s : Shared} {Q : Value → Shared → Prop} {E : Value → Shared → Prop} {n : Int} {tn : Tok} {A : Around}
    (B : Below A₀ base outer h₀) (F : Fr h₀ L s.heap m) (X : (KF w.params).In h₀) (N : News h₀ L s.heap news) (T : Top p loose mean mg mb h₀) (hA : A.frames = some (envOf cn cs L a ccd :: outer)) (hk : cs.kind = .function)
    (hg : A.guards = some []) (hh : A.handled = none) (hd : A.depth ≤ 401) (hu : A.units ≤ 500) (hr : inR n)
    (h : ∀ T t1 h' tk, Fr h₀ L h' m → News h₀ L h' ((T, tupO [.int (placeN n) t1, .int n tn]) :: news) → (∀ q ∈ news, q.1 < T) → Q (.ref T) { s with heap := h', toks := tk }) : wpAny (model PySem.Challenge.rw_vn0026_01.prog w) A (call (.ref 1261) [.int n tn]) Q E s := by
  refine wpAny_up (l := envOf cn cs L a ccd :: outer) ?_ hA hg hh hd hu
  have z := place_k w p loose mean mg mb A₀ base h₀ L a m cn cs ccd outer news s Q E n tn B F X N T hr (fun T x t1 h' tk e => e ▸ h T t1 h' tk)
  rw [mkSc_eq hk] at z
  exact z
end Mine

end
local macro_rules | `(tactic| walk_at "zz") => `(tactic| fail)
section
open PySem PySem.W PyProof.Rows PySem.W.X PySem.W.XRun
namespace Mine
local macro_rules | `(tactic| x_close) => `(tactic| (exact $(Lean.mkIdent `hQ) _ _ ⟨_, by assumption⟩))
set_option maxHeartbeats 0 in
theorem infer_x (w : World) (l : List Env) (s : Shared) (X : (KF w.params).In s.heap) (n : Int) (t : Tok) (h0 : 0 ≤ n) (h1 : n < 18446744073709551616) (Q : Value → Shared → Prop) (E : Value → Shared → Prop)
  (hQ : ∀ h' tk, (∃ nn, W.X.Mem s.heap h' [] nn) → Q (.ref 1070) { s with heap := h', toks := tk }) : wpAny (model PW w) (Aup l) (call (.ref 1249) [.int n t]) Q E s := by
  x_run
theorem infer_K {w : World} {h₀ : Heap} {L : Addr} {m : Str → Option Value} {news : List (Addr × Obj)} {s : Shared} {Q : Value → Shared → Prop} {E : Value → Shared → Prop} {n : Int} {tn : Tok} {A : Around} {l : List Env}
    (F : Fr h₀ L s.heap m) (X : (KF w.params).In h₀) (N : News h₀ L s.heap news) (hA : A.frames = some l)
    (hg : A.guards = some []) (hh : A.handled = none) (hd : A.depth ≤ 401) (hu : A.units ≤ 500) (h0 : 0 ≤ n) (h1 : n < 18446744073709551616)
    (h : ∀ h' tk, Fr h₀ L h' m → News h₀ L h' news → Q (.ref 1070) { s with heap := h', toks := tk }) : wpAny (model PySem.Challenge.rw_vn0026_01.prog w) A (call (.ref 1249) [.int n tn]) Q E s := by
  refine wpAny_up (l := l) ?_ hA hg hh hd hu
  refine infer_x w l s (X.keeps F.keep) n tn h0 h1 Q E fun h' tk hm => ?_
  obtain ⟨nn, hm⟩ := hm
  have z := mem_fr F N hm
  exact h h' tk z.1 fun q hq => z.2 q (List.mem_append_right _ hq)
end Mine

end
local macro_rules | `(tactic| walk_at "zz") => `(tactic| fail)
section
open PySem PySem.W PyProof.Rows PyProof.Rows.LCg
namespace Mine
def rawL (cs : List UInt8) : List UInt8 := match cs with
  | [c] => if c.toNat < 128 then [c] else [129, c]
  | cs => (128 + cs.length).toUInt8 :: cs
local macro_rules | `(tactic| k_room) => `(tactic| (simp only [depth_under_make, depth_under_kw, depth_in1, depth_deeper, depth_caller, aup_depth, amid_depth]; decide))
theorem len_by {prog : Program} {w : World} {A : Around} {E : Value → Shared → Prop} {s : Shared} {b : Array UInt8} {t : Tok} {k : Int} {Q : Value → Shared → Prop} (hk : (b.size : Int) = k) (hz : k ≤ 8) (h : Q (.int k (s.toks + 1)) { s with toks := s.toks + 1 + 1 }) : wpAny (model prog w) A (call (.builtin "len") [.bytes b t]) Q E s := by
  subst hk
  exact len_bytes (by omega) h
local macro_rules | `(tactic| walk_at "call builtin:len") => `(tactic| (k_here; (with_reducible show wpAny _ _ (call (Value.builtin "len") [Value.bytes _ _]) _ _ _); k_dflt (refine' len_by ?k1 ?k2 ?_; (case k1 => assumption); (case k2 => decide); k_whole)))
set_option maxHeartbeats 16000000 in
theorem raw_k : ∀ (w : World) (p : Program) (loose : List Str) (mean : ExcName → Option Value) (mg mb : Str → Option Value) (A₀ : Around) (base h₀ : Heap) (L a : Addr) (m : Str → Option Value) (cn : Str) (cs : Scope) (ccd : Value) (outer : List Env) (news : List (Addr × Obj)) (s : Shared) (Q : Value → Shared → Prop) (E : Value → Shared → Prop) (bs : List UInt8) (tn : Tok),
    Below A₀ base outer h₀ → Fr h₀ L s.heap m → (KF w.params).In h₀ → News h₀ L s.heap news → Top p loose mean mg mb h₀ → bs.length ≤ 8 → (∀ x t' h' tk, x = (rawL bs).toArray → Fr h₀ L h' m → News h₀ L h' news → Q (.bytes x t') { s with heap := h', toks := tk }) →
    wpAny (model PySem.Challenge.rw_vn0026_01.prog w) (Aup (envOf cn (mkSc cs) L a ccd :: outer)) (call (.ref 1227) [.bytes bs.toArray tn]) Q E s := by
  k_fill
  w_on
  intro w p loose mean mg mb A₀ base h₀ L a m cn cs ccd outer news s Q E bs tn B F X N T hl hQ
  obtain ⟨hh, g, d, t, os⟩ := s
  match bs, hl with
  | [], _ =>
    have hs : (([] : List UInt8).toArray.size : Int) = 0 := rfl
    k_steps
    rename Fr h₀ L _ m => F9
    rename News h₀ L _ _ => N9
    exact hQ _ _ _ _ rfl F9 fun q hq => N9 q (by repeat (first | exact hq | apply List.mem_cons_of_mem))
  | [c1, c2], _ =>
    have hs : (([c1, c2] : List UInt8).toArray.size : Int) = 2 := rfl
    k_steps
    rename Fr h₀ L _ m => F9
    rename News h₀ L _ _ => N9
    exact hQ _ _ _ _ rfl F9 fun q hq => N9 q (by repeat (first | exact hq | apply List.mem_cons_of_mem))
  | [c1, c2, c3], _ =>
    have hs : (([c1, c2, c3] : List UInt8).toArray.size : Int) = 3 := rfl
    k_steps
    rename Fr h₀ L _ m => F9
    rename News h₀ L _ _ => N9
    exact hQ _ _ _ _ rfl F9 fun q hq => N9 q (by repeat (first | exact hq | apply List.mem_cons_of_mem))
  | [c1, c2, c3, c4], _ =>
    have hs : (([c1, c2, c3, c4] : List UInt8).toArray.size : Int) = 4 := rfl
    k_steps
    rename Fr h₀ L _ m => F9
    rename News h₀ L _ _ => N9
    exact hQ _ _ _ _ rfl F9 fun q hq => N9 q (by repeat (first | exact hq | apply List.mem_cons_of_mem))
  | [c1, c2, c3, c4, c5], _ =>
    have hs : (([c1, c2, c3, c4, c5] : List UInt8).toArray.size : Int) = 5 := rfl
    k_steps
    rename Fr h₀ L _ m => F9
    rename News h₀ L _ _ => N9
    exact hQ _ _ _ _ rfl F9 fun q hq => N9 q (by repeat (first | exact hq | apply List.mem_cons_of_mem))
  | [c1, c2, c3, c4, c5, c6], _ =>
    have hs : (([c1, c2, c3, c4, c5, c6] : List UInt8).toArray.size : Int) = 6 := rfl
    k_steps
    rename Fr h₀ L _ m => F9
    rename News h₀ L _ _ => N9
    exact hQ _ _ _ _ rfl F9 fun q hq => N9 q (by repeat (first | exact hq | apply List.mem_cons_of_mem))
  | [c1, c2, c3, c4, c5, c6, c7], _ =>
    have hs : (([c1, c2, c3, c4, c5, c6, c7] : List UInt8).toArray.size : Int) = 7 := rfl
    k_steps
    rename Fr h₀ L _ m => F9
    rename News h₀ L _ _ => N9
    exact hQ _ _ _ _ rfl F9 fun q hq => N9 q (by repeat (first | exact hq | apply List.mem_cons_of_mem))
  | [c1, c2, c3, c4, c5, c6, c7, c8], _ =>
    have hs : (([c1, c2, c3, c4, c5, c6, c7, c8] : List UInt8).toArray.size : Int) = 8 := rfl
    k_steps
    rename Fr h₀ L _ m => F9
    rename News h₀ L _ _ => N9
    exact hQ _ _ _ _ rfl F9 fun q hq => N9 q (by repeat (first | exact hq | apply List.mem_cons_of_mem))
  | [c], _ =>
    have hs : ([c].toArray.size : Int) = 1 := rfl
    have hg9 : ([c].getD (Int.toNat 0) 0).toNat = c.toNat := rfl
    k_steps
    all_goals rename Fr h₀ L _ m => F9
    all_goals rename News h₀ L _ _ => N9
    · refine hQ _ _ _ _ ?_ F9 fun q hq => N9 q (by repeat (first | exact hq | apply List.mem_cons_of_mem))
      show #[c] = (if c.toNat < 128 then [c] else [129, c]).toArray
      rw [if_pos (by omega)]
    · refine hQ _ _ _ _ ?_ F9 fun q hq => N9 q (by repeat (first | exact hq | apply List.mem_cons_of_mem))
      show #[129, c] = (if c.toNat < 128 then [c] else [129, c]).toArray
      rw [if_neg (by omega)]
  | _ :: _ :: _ :: _ :: _ :: _ :: _ :: _ :: _ :: _, h => simp at h
theorem raw_K {w : World} {p : Program} {loose : List Str} {mean : ExcName → Option Value} {mg mb : Str → Option Value} {A₀ : Around} {base h₀ : Heap} {L a : Addr} {m : Str → Option Value} {cn : Str} {cs : Scope} {ccd : Value} {outer : List Env} {news : List (Addr × Obj)} {s : Shared} {Q : Value → Shared → Prop} {E : Value → Shared → Prop} {bs : List UInt8} {tn : Tok} {A : Around}
    (B : Below A₀ base outer h₀) (F : Fr h₀ L s.heap m) (X : (KF w.params).In h₀) (N : News h₀ L s.heap news) (T : Top p loose mean mg mb h₀) (hA : A.frames = some (envOf cn cs L a ccd :: outer)) (hk : cs.kind = .function)
    (hg : A.guards = some []) (hh : A.handled = none) (hd : A.depth ≤ 401) (hu : A.units ≤ 500) (hl : bs.length ≤ 8)
    (h : ∀ t1 h' tk, Fr h₀ L h' m → News h₀ L h' news → Q (.bytes (rawL bs).toArray t1) { s with heap := h', toks := tk }) : wpAny (model PySem.Challenge.rw_vn0026_01.prog w) A (call (.ref 1227) [.bytes bs.toArray tn]) Q E s := by
  refine wpAny_up (l := envOf cn cs L a ccd :: outer) ?_ hA hg hh hd hu
  have z := raw_k w p loose mean mg mb A₀ base h₀ L a m cn cs ccd outer news s Q E bs tn B F X N T hl (fun x t1 h' tk e => e ▸ h t1 h' tk)
  rw [mkSc_eq hk] at z
  exact z
end Mine

end
local macro_rules | `(tactic| walk_at "zz") => `(tactic| fail)
local macro_rules | `(tactic| walk_at "zz") => `(tactic| fail)
section
open PySem PySem.W PyProof.Rows PyProof.Rows.LCg
namespace Mine
def byteLen (n : Int) : Nat := (Builtin.Int.intBits n + 7) / 8
theorem byteLen_lt {n : Int} (h0 : 0 ≤ n) : n < 256 ^ byteLen n := by
  have h := intBits_le_iff.mp (show Builtin.Int.intBits n ≤ 8 * byteLen n by unfold byteLen; omega)
  have e2 : (2 : Nat) ^ 8 = 256 := by decide
  rw [Nat.pow_mul, e2] at h
  have : ((256 : Int) ^ byteLen n) = ((256 ^ byteLen n : Nat) : Int) := by rw [Int.natCast_pow]; rfl
  rw [this]
  omega
theorem byteLen_le {n : Int} (h0 : 0 ≤ n) {k : Nat} (h : n < 256 ^ k) : byteLen n ≤ k := by
  have : ((256 : Int) ^ k) = ((256 ^ k : Nat) : Int) := by rw [Int.natCast_pow]; rfl
  rw [this] at h
  have e2 : (2 : Nat) ^ 8 = 256 := by decide
  have hb : Builtin.Int.intBits n ≤ 8 * k := intBits_le_iff.mpr (by rw [Nat.pow_mul, e2]; omega)
  unfold byteLen
  omega
theorem bInts_inj {a b : List UInt8} (h : a.map (fun c => ((c.toNat : Nat) : Int)) = b.map fun c => ((c.toNat : Nat) : Int)) : a = b := by
  induction a generalizing b with
  | nil => cases b with
    | nil => rfl
    | cons y b => cases h
  | cons x a ih => cases b with
    | nil => cases h
    | cons y b =>
      rw [List.map_cons, List.map_cons] at h
      injection h with h1 h2
      have e : x = y := UInt8.toNat_inj.mp (Int.ofNat.inj h1)
      rw [ih h2, e]
theorem little_be {n : Int} {k : Nat} (h0 : 0 ≤ n) : (KTBy.little k n).reverse = (beL k n.toNat).map fun c => ((c.toNat : Nat) : Int) := by
  rw [KTBy.little_eq, ← List.map_reverse]
  unfold beL
  rw [List.map_map]
  refine List.map_congr_left fun i _ => ?_
  obtain ⟨x, rfl⟩ := Int.eq_ofNat_of_zero_le h0
  show (x : Int) / 256 ^ i % 256 = (((x / 256 ^ i % 256).toUInt8.toNat : Nat) : Int)
  have e : ((256 : Int) ^ i) = ((256 ^ i : Nat) : Int) := by rw [Int.natCast_pow]; rfl
  rw [e]
  show _ = (((UInt8.ofNat (x / 256 ^ i % 256)).toNat : Nat) : Int)
  rw [UInt8.toNat_ofNat', Nat.mod_mod]
  rfl
theorem tb_K {prog : Program} {w : World} {A : Around} {E : Value → Shared → Prop} {s : Shared} {n x : Int} {t u v : Tok} {Q : Value → Shared → Prop} (hx : x = (Builtin.Int.intBits n + 7 : Int).fdiv 8) (h0 : 0 ≤ n) (h1 : n < 18446744073709551616)
    (h : ∀ t' k', Q (.bytes (beL (byteLen n) n.toNat).toArray t') { s with toks := k' }) : wpAny (model prog w) A (call (.builtin "int.to_bytes") [.int n t, .int x u, .str (Str.ofString "big") v]) Q E s := by
  have e : x = ((byteLen n : Nat) : Int) := by
    rw [hx, Int.fdiv_eq_ediv_of_nonneg _ (by decide)]
    unfold byteLen
    omega
  subst e
  have e8 : (256 : Int) ^ 8 = 18446744073709551616 := by decide
  have hk : byteLen n ≤ 8 := byteLen_le h0 (e8 ▸ h1)
  refine KTBy.to_big (B := 256 ^ byteLen n) hk rfl h0 (byteLen_lt h0) fun b t' k' hb _ => ?_
  have : b = (beL (byteLen n) n.toNat).toArray := by
    rw [little_be h0] at hb
    exact Array.toList_inj.mp (bInts_inj hb)
  rw [this]
  exact h t' k'
local macro_rules | `(tactic| k_room) => `(tactic| (simp only [depth_under_make, depth_under_kw, depth_in1, depth_deeper, depth_caller, aup_depth, amid_depth]; decide))
local macro_rules | `(tactic| walk_at "call builtin:int.to_bytes") => `(tactic| (k_here; (with_reducible show wpAny _ _ (call (Value.builtin "int.to_bytes") [Value.int _ _, Value.int _ _, Value.str _ _]) _ _ _); k_dflt (refine tb_K rfl (by omega) (by omega) ?_); intro t' k'))
set_option maxHeartbeats 4000000 in
theorem i2b_k : ∀ (w : World) (p : Program) (loose : List Str) (mean : ExcName → Option Value) (mg mb : Str → Option Value) (A₀ : Around) (base h₀ : Heap) (L a : Addr) (m : Str → Option Value) (cn : Str) (cs : Scope) (ccd : Value) (outer : List Env) (news : List (Addr × Obj)) (s : Shared) (Q : Value → Shared → Prop) (E : Value → Shared → Prop) (n : Int) (tn : Tok),
    Below A₀ base outer h₀ → Fr h₀ L s.heap m → (KF w.params).In h₀ → News h₀ L s.heap news → Top p loose mean mg mb h₀ → 0 < n → n < 18446744073709551616 → (∀ x t' h' tk, x = (beL (byteLen n) n.toNat).toArray → Fr h₀ L h' m → News h₀ L h' news → Q (.bytes x t') { s with heap := h', toks := tk }) →
    wpAny (model PySem.Challenge.rw_vn0026_01.prog w) (Aup (envOf cn (mkSc cs) L a ccd :: outer)) (call (.ref 1032) [.int n tn]) Q E s := by
  k_fill
  w_on
  intro w p loose mean mg mb A₀ base h₀ L a m cn cs ccd outer news s Q E n tn B F X N T h0 h1 hQ
  obtain ⟨hh, g, d, t, os⟩ := s
  k_steps
  · dsimp only
    show wpAny _ _ (call (.builtin "int.to_bytes") [.int n _, .int _ _, .str (Str.ofString "big") _]) _ _ _
    refine tb_K rfl (by omega) (by omega) fun t1 k1 => ?_
    k_steps
    rename Fr h₀ L _ m => F9
    rename News h₀ L _ _ => N9
    exact hQ _ _ _ _ rfl F9 N9
  · exfalso
    rename (_ : Int) = 0 => hz
    rw [Int.fdiv_eq_ediv_of_nonneg _ (by decide)] at hz
    have hb : Builtin.Int.intBits n ≤ 0 := by omega
    have := intBits_le_iff.mp hb
    omega
theorem i2b_K {w : World} {p : Program} {loose : List Str} {mean : ExcName → Option Value} {mg mb : Str → Option Value} {A₀ : Around} {base h₀ : Heap} {L a : Addr} {m : Str → Option Value} {cn : Str} {cs : Scope} {ccd : Value} {outer : List Env} {news : List (Addr × Obj)} {s : Shared} {Q : Value → Shared → Prop} {E : Value → Shared → Prop} {n : Int} {tn : Tok} {A : Around}
    (B : Below A₀ base outer h₀) (F : Fr h₀ L s.heap m) (X : (KF w.params).In h₀) (N : News h₀ L s.heap news) (T : Top p loose mean mg mb h₀) (hA : A.frames = some (envOf cn cs L a ccd :: outer)) (hk : cs.kind = .function)
    (hg : A.guards = some []) (hh : A.handled = none) (hd : A.depth ≤ 401) (hu : A.units ≤ 500) (h0 : 0 < n) (h1 : n < 18446744073709551616)
    (h : ∀ t1 h' tk, Fr h₀ L h' m → News h₀ L h' news → Q (.bytes (beL (byteLen n) n.toNat).toArray t1) { s with heap := h', toks := tk }) : wpAny (model PySem.Challenge.rw_vn0026_01.prog w) A (call (.ref 1032) [.int n tn]) Q E s := by
  refine wpAny_up (l := envOf cn cs L a ccd :: outer) ?_ hA hg hh hd hu
  have z := i2b_k w p loose mean mg mb A₀ base h₀ L a m cn cs ccd outer news s Q E n tn B F X N T h0 h1 (fun x t1 h' tk e => e ▸ h t1 h' tk)
  rw [mkSc_eq hk] at z
  exact z
end Mine

end
local macro_rules | `(tactic| walk_at "zz") => `(tactic| fail)
local macro_rules | `(tactic| walk_at "zz") => `(tactic| fail)
section
open PySem PySem.W PyProof.Rows PyProof.Rows.LCg
namespace Mine
/-- The RLP octets of a whole number that is not below 0. -/
def serL (n : Int) : List UInt8 := if n = 0 then [] else beL (byteLen n) n.toNat
abbrev encB (n : Int) : Array UInt8 := (rawL (serL n)).toArray
theorem serL_len {n : Int} (h0 : 0 ≤ n) (h1 : n < 18446744073709551616) : (serL n).length ≤ 8 := by
  unfold serL
  split
  · exact Nat.zero_le _
  · have e8 : (256 : Int) ^ 8 = 18446744073709551616 := by decide
    rw [beL_length]
    exact byteLen_le h0 (e8 ▸ h1)
local macro_rules | `(tactic| k_room) => `(tactic| (simp only [depth_under_make, depth_under_kw, depth_in1, depth_deeper, depth_caller, aup_depth, amid_depth]; decide))
local macro_rules | `(tactic| walk_at "call ref") => `(tactic| (k_here; first
  | ((with_reducible show wpAny _ _ (call (Value.ref 1249) [Value.int _ _]) _ _ _); k_dflt (refine' infer_K ?k1 ?k2 ?k3 ?k4 ?k5 ?k6 ?k7 ?k8 ?k9 ?k10 ?_; (case k1 => k_asm); (case k2 => k_asm); (case k3 => k_asm); (case k4 => exact rfl); (case k5 => exact rfl); (case k6 => exact rfl); (case k7 => exact Nat.le_of_ble_eq_true rfl); (case k8 => exact Nat.le_of_ble_eq_true rfl); (case k9 => omega); (case k10 => omega); k_whole; intro h' tk' F' N'))
  | ((with_reducible show wpAny _ _ (call (Value.ref 1032) [Value.int _ _]) _ _ _); k_dflt (refine' i2b_K ?k1 ?k2 ?k3 ?k4 ?k5 ?k6 ?k6b ?k7 ?k8 ?k9 ?k10 ?k11 ?k12 ?_; (case k1 => k_asm); (case k2 => k_asm); (case k3 => k_asm); (case k4 => k_asm); (case k5 => k_asm); (case k6 => exact rfl); (case k6b => exact rfl); (case k7 => exact rfl); (case k8 => exact rfl); (case k9 => exact Nat.le_of_ble_eq_true rfl); (case k10 => exact Nat.le_of_ble_eq_true rfl); (case k11 => omega); (case k12 => omega); k_whole; intro t' h' tk' F' N'))
  | ((with_reducible show wpAny _ _ (call (Value.ref 1227) [Value.bytes (List.toArray _) _]) _ _ _); k_dflt (refine' raw_K ?k1 ?k2 ?k3 ?k4 ?k5 ?k6 ?k6b ?k7 ?k8 ?k9 ?k10 ?k11 ?_; (case k1 => k_asm); (case k2 => k_asm); (case k3 => k_asm); (case k4 => k_asm); (case k5 => k_asm); (case k6 => exact rfl); (case k6b => exact rfl); (case k7 => exact rfl); (case k8 => exact rfl); (case k9 => exact Nat.le_of_ble_eq_true rfl); (case k10 => exact Nat.le_of_ble_eq_true rfl); (case k11 => first | assumption | (exact Nat.zero_le _)); k_whole; intro t' h' tk' F' N'))))
set_option maxHeartbeats 4000000 in
theorem ser_k : ∀ (w : World) (p : Program) (loose : List Str) (mean : ExcName → Option Value) (mg mb : Str → Option Value) (A₀ : Around) (base h₀ : Heap) (L a : Addr) (m : Str → Option Value) (cn : Str) (cs : Scope) (ccd : Value) (outer : List Env) (news : List (Addr × Obj)) (s : Shared) (Q : Value → Shared → Prop) (E : Value → Shared → Prop) (n : Int) (tn : Tok),
    Below A₀ base outer h₀ → Fr h₀ L s.heap m → (KF w.params).In h₀ → News h₀ L s.heap news → Top p loose mean mg mb h₀ → 0 ≤ n → n < 18446744073709551616 → (∀ x t' h' tk, x = (serL n).toArray → Fr h₀ L h' m → News h₀ L h' news → Q (.bytes x t') { s with heap := h', toks := tk }) →
    wpAny (model PySem.Challenge.rw_vn0026_01.prog w) (Amid (envOf cn (mkSc cs) L a ccd :: outer)) (call (.ref 1054) [.ref 1070, .int n tn]) Q E s := by
  k_fill
  w_on
  intro w p loose mean mg mb A₀ base h₀ L a m cn cs ccd outer news s Q E n tn B F X N T hn1 hn2 hQ
  obtain ⟨hh, g, d, t, os⟩ := s
  k_steps
  all_goals rename Fr h₀ L _ m => F9
  all_goals rename News h₀ L _ _ => N9
  · exact hQ _ _ _ _ (by unfold serL; rw [if_pos (by omega)]) F9 N9
  · exact hQ _ _ _ _ (by unfold serL; rw [if_neg (by omega)]) F9 N9
theorem ser_K {w : World} {p : Program} {loose : List Str} {mean : ExcName → Option Value} {mg mb : Str → Option Value} {A₀ : Around} {base h₀ : Heap} {L a : Addr} {m : Str → Option Value} {cn : Str} {cs : Scope} {ccd : Value} {outer : List Env} {news : List (Addr × Obj)} {s : Shared} {Q : Value → Shared → Prop} {E : Value → Shared → Prop} {n : Int} {tn : Tok} {A : Around}
    (B : Below A₀ base outer h₀) (F : Fr h₀ L s.heap m) (X : (KF w.params).In h₀) (N : News h₀ L s.heap news) (T : Top p loose mean mg mb h₀) (hA : A.frames = some (envOf cn cs L a ccd :: outer)) (hk : cs.kind = .function)
    (hg : A.guards = some []) (hh : A.handled = none) (hd : A.depth ≤ 390) (hu : A.units ≤ 450) (h0 : 0 ≤ n) (h1 : n < 18446744073709551616)
    (h : ∀ t1 h' tk, Fr h₀ L h' m → News h₀ L h' news → Q (.bytes (serL n).toArray t1) { s with heap := h', toks := tk }) : wpAny (model PySem.Challenge.rw_vn0026_01.prog w) A (call (.ref 1054) [.ref 1070, .int n tn]) Q E s := by
  have z := ser_k w p loose mean mg mb A₀ base h₀ L a m cn cs ccd outer news s Q E n tn B F X N T h0 h1 (fun x t1 h' tk e => e ▸ h t1 h' tk)
  rw [mkSc_eq hk] at z
  exact fun Γ p hΓ => z Γ p ⟨hΓ.1.trans hh, Nat.le_trans hΓ.2.1 hd, fun x e => hΓ.2.2.1 x (hA.trans e), fun g e => hΓ.2.2.2.1 g (hg.trans e), Nat.le_trans hΓ.2.2.2.2 hu⟩
end Mine

end
local macro_rules | `(tactic| walk_at "zz") => `(tactic| fail)
local macro_rules | `(tactic| walk_at "zz") => `(tactic| fail)
section
open PySem PySem.W PyProof.Rows PyProof.Rows.LCg
namespace Mine
local macro_rules | `(tactic| k_room) => `(tactic| (simp only [depth_under_make, depth_under_kw, depth_in1, depth_deeper, depth_caller, aup_depth, amid_depth, alow_depth]; decide))
local macro_rules | `(tactic| walk_at "call ref") => `(tactic| (k_here; first
  | ((with_reducible show wpAny _ _ (call (Value.ref 1249) [Value.int _ _]) _ _ _); k_dflt (refine' infer_K ?k1 ?k2 ?k3 ?k4 ?k5 ?k6 ?k7 ?k8 ?k9 ?k10 ?_; (case k1 => k_asm); (case k2 => k_asm); (case k3 => k_asm); (case k4 => exact rfl); (case k5 => exact rfl); (case k6 => exact rfl); (case k7 => exact Nat.le_of_ble_eq_true rfl); (case k8 => exact Nat.le_of_ble_eq_true rfl); (case k9 => omega); (case k10 => omega); k_whole; intro h' tk' F' N'))
  | ((with_reducible show wpAny _ _ (call (Value.ref 1054) [_, Value.int _ _]) _ _ _); k_dflt (refine' ser_K ?k1 ?k2 ?k3 ?k4 ?k5 ?k6 ?k6b ?k7 ?k8 ?k9 ?k10 ?k11 ?k12 ?_; (case k1 => k_asm); (case k2 => k_asm); (case k3 => k_asm); (case k4 => k_asm); (case k5 => k_asm); (case k6 => exact rfl); (case k6b => exact rfl); (case k7 => exact rfl); (case k8 => exact rfl); (case k9 => exact Nat.le_of_ble_eq_true rfl); (case k10 => exact Nat.le_of_ble_eq_true rfl); (case k11 => omega); (case k12 => omega); k_whole; intro t' h' tk' F' N'))
  | ((with_reducible show wpAny _ _ (call (Value.ref 1227) [Value.bytes _ _]) _ _ _); k_dflt (refine' raw_K ?k1 ?k2 ?k3 ?k4 ?k5 ?k6 ?k6b ?k7 ?k8 ?k9 ?k10 ?k11 ?_; (case k1 => k_asm); (case k2 => k_asm); (case k3 => k_asm); (case k4 => k_asm); (case k5 => k_asm); (case k6 => exact rfl); (case k6b => exact rfl); (case k7 => exact rfl); (case k8 => exact rfl); (case k9 => exact Nat.le_of_ble_eq_true rfl); (case k10 => exact Nat.le_of_ble_eq_true rfl); (case k11 => assumption); k_whole; intro t' h' tk' F' N'))))
set_option maxHeartbeats 4000000 in
theorem enc_k : ∀ (w : World) (p : Program) (loose : List Str) (mean : ExcName → Option Value) (mg mb : Str → Option Value) (A₀ : Around) (base h₀ : Heap) (L a : Addr) (m : Str → Option Value) (cn : Str) (cs : Scope) (ccd : Value) (outer : List Env) (news : List (Addr × Obj)) (s : Shared) (Q : Value → Shared → Prop) (E : Value → Shared → Prop) (n : Int) (tn : Tok),
    Below A₀ base outer h₀ → Fr h₀ L s.heap m → (KF w.params).In h₀ → News h₀ L s.heap news → Top p loose mean mg mb h₀ → 0 ≤ n → n < 18446744073709551616 → (∀ x t' h' tk, x = encB n → Fr h₀ L h' m → News h₀ L h' news → Q (.bytes x t') { s with heap := h', toks := tk }) →
    wpAny (model PySem.Challenge.rw_vn0026_01.prog w) (Alow (envOf cn (mkSc cs) L a ccd :: outer)) (call (.ref 1235) [.int n tn]) Q E s := by
  k_fill
  w_on
  intro w p loose mean mg mb A₀ base h₀ L a m cn cs ccd outer news s Q E n tn B F X N T hn1 hn2 hQ
  obtain ⟨hh, g, d, t, os⟩ := s
  have hl := serL_len hn1 hn2
  k_steps
  rename Fr h₀ L _ m => F9
  rename News h₀ L _ _ => N9
  exact hQ _ _ _ _ rfl F9 N9
theorem enc_K {w : World} {p : Program} {loose : List Str} {mean : ExcName → Option Value} {mg mb : Str → Option Value} {A₀ : Around} {base h₀ : Heap} {L a : Addr} {m : Str → Option Value} {cn : Str} {cs : Scope} {ccd : Value} {outer : List Env} {news : List (Addr × Obj)} {s : Shared} {Q : Value → Shared → Prop} {E : Value → Shared → Prop} {n : Int} {tn : Tok} {A : Around}
    (B : Below A₀ base outer h₀) (F : Fr h₀ L s.heap m) (X : (KF w.params).In h₀) (N : News h₀ L s.heap news) (T : Top p loose mean mg mb h₀) (hA : A.frames = some (envOf cn cs L a ccd :: outer)) (hk : cs.kind = .function)
    (hg : A.guards = some []) (hh : A.handled = none) (hd : A.depth ≤ 380) (hu : A.units ≤ 400) (h0 : 0 ≤ n) (h1 : n < 18446744073709551616)
    (h : ∀ t1 h' tk, Fr h₀ L h' m → News h₀ L h' news → Q (.bytes (encB n) t1) { s with heap := h', toks := tk }) : wpAny (model PySem.Challenge.rw_vn0026_01.prog w) A (call (.ref 1235) [.int n tn]) Q E s := by
  have z := enc_k w p loose mean mg mb A₀ base h₀ L a m cn cs ccd outer news s Q E n tn B F X N T h0 h1 (fun x t1 h' tk e => e ▸ h t1 h' tk)
  rw [mkSc_eq hk] at z
  exact fun Γ p hΓ => z Γ p ⟨hΓ.1.trans hh, Nat.le_trans hΓ.2.1 hd, fun x e => hΓ.2.2.1 x (hA.trans e), fun g e => hΓ.2.2.2.1 g (hg.trans e), Nat.le_trans hΓ.2.2.2.2 hu⟩
end Mine

end
local macro_rules | `(tactic| walk_at "zz") => `(tactic| fail)
local macro_rules | `(tactic| walk_at "zz") => `(tactic| fail)
section
open PySem PySem.W PyProof.Rows PySem.Calls PyProof.Rows.LCg
namespace Mine
local macro_rules | `(tactic| k_room) => `(tactic| (simp only [depth_under_make, depth_under_kw, depth_in1, depth_deeper, depth_caller, aup_depth, alow_depth, amid_depth]; decide))
local macro_rules | `(tactic| walk_at "eval ListComp") => `(tactic| (k_here; refine comp_openG ?_ (by intro _; with_unfolding_all rfl) (by with_unfolding_all rfl) (by rfl) (by decide)))
local macro_rules | `(tactic| walk_at "call ref") => `(tactic| (k_here; (with_reducible show wpAny _ _ (call (Value.ref 1261) [Value.int _ _]) _ _ _); k_dflt (refine' place_K ?k1 ?k2 ?k3 ?k4 ?k5 ?k6 ?k6b ?k7 ?k8 ?k9 ?k10 ?k11 ?_; (case k1 => k_asm); (case k2 => k_asm); (case k3 => k_asm); (case k4 => k_asm); (case k5 => k_asm); (case k6 => exact rfl); (case k6b => exact rfl); (case k7 => exact rfl); (case k8 => exact rfl); (case k9 => exact Nat.le_of_ble_eq_true rfl); (case k10 => exact Nat.le_of_ble_eq_true rfl); (case k11 => assumption); k_whole; intro T' t' h' tk' F' N' l')))
abbrev mLaw (num : Option Value) (lv l : Addr) : Str → Option Value := fun y => if y = sn "number" then num else if y = sn "values" then some (Value.ref lv) else List.lookup y [(sn "script", Value.ref l)]
def PlaceOk (ns : List Int) : Prop := ∀ x ∈ ns, ∀ y ∈ ns, (if placeN x = placeN y then decide (x < y) else decide (placeN x < placeN y)) = decide (prank x < prank y)
theorem ints_dat {vs : List Value} {ns : List Int} (h : IntsAre vs ns) : DatAll [] vs (ns.map Dat.int) := by
  induction h with
  | nil => exact .nil
  | cons n t h ih => exact .cons (.int _ _) ih
theorem ok_ints (ns : List Int) : ∀ d ∈ ns.map Dat.int, kqdOk 8 d = true := fun d hd => by
  obtain ⟨n, _, rfl⟩ := List.mem_map.mp hd
  simp [kqdOk]
theorem ne_ints {prog : Program} {w : World} {A : Around} {E : Value → Shared → Prop} {s : Shared} {h₀ : Heap} {L a b : Addr} {news : List (Addr × Obj)} {xs ys : List Value} {ns ms : List Int} {i j : Nat} {Q : Value → Shared → Prop} (N : News h₀ L s.heap news) (ma : (a, listOf xs.toArray i) ∈ news) (hx : IntsAre xs ns) (mb : (b, listOf ys.toArray j) ∈ news) (hy : IntsAre ys ms)
    (hu : A.units + 64 < cLine) (he : ns = ms) (h : Q (.bool false) s) : wpAny (model prog w) A (compareOp .NotEq (.ref a) (.ref b)) Q E s := by
  subst he
  refine kqd_ne N ma rfl rfl (ints_dat hx) (fun q hq => nomatch hq) mb rfl rfl (ints_dat hy) (fun q hq => nomatch hq) (ok_ints _) (ok_ints _) hu ?_
  simpa using h
theorem eq_ints {prog : Program} {w : World} {A : Around} {E : Value → Shared → Prop} {s : Shared} {h₀ : Heap} {L a b : Addr} {news : List (Addr × Obj)} {xs ys : List Value} {ns ms : List Int} {i j : Nat} {Q : Value → Shared → Prop} (N : News h₀ L s.heap news) (ma : (a, listOf xs.toArray i) ∈ news) (hx : IntsAre xs ns) (mb : (b, listOf ys.toArray j) ∈ news) (hy : IntsAre ys ms)
    (hu : A.units + 64 < cLine) (he : ns = ms) (h : Q (.bool true) s) : wpAny (model prog w) A (compareOp .Eq (.ref a) (.ref b)) Q E s := by
  subst he
  refine kqd_eq N ma rfl rfl (ints_dat hx) (fun q hq => nomatch hq) mb rfl rfl (ints_dat hy) (fun q hq => nomatch hq) (ok_ints _) (ok_ints _) hu ?_
  simpa using h
/-- The sorted list is one. -/
theorem sorted_one {key : Int → Int} : ∀ {a b : List Int}, a.Perm b → (a.map key).Pairwise (· < ·) → (b.map key).Pairwise (· < ·) → a = b
  | [], b, h, _, _ => by rw [List.Perm.nil_eq h]
  | x :: a, [], h, _, _ => absurd h.length_eq (by simp)
  | x :: a, y :: b, h, ha, hb => by
    rw [List.map_cons, List.pairwise_cons] at ha hb
    have e : x = y := by
      rcases List.mem_cons.mp (h.mem_iff.mp (List.mem_cons_self (a := x))) with q | q
      · exact q
      · rcases List.mem_cons.mp (h.mem_iff.mpr (List.mem_cons_self (a := y))) with r | r
        · exact r.symm
        · have k1 := hb.1 (key x) (List.mem_map_of_mem q)
          have k2 := ha.1 (key y) (List.mem_map_of_mem r)
          omega
    subst e
    rw [sorted_one (List.Perm.cons_inv h) ha.2 hb.2]
theorem fin_pl {h₀ : Heap} {L : Addr} {m : Str → Option Value} {I C D : Addr} {oI oC : Obj} {ys : List Value} {tps : List (Addr × Obj)} {h' : Heap} {g : Array GenState} {d : Drawn} {tk : Nat} {os : OsState} {n : Int} {u t1 : Tok} {T2 T1 : Addr} {xs : List Int} {Q' : Value → Shared → Prop}
    (hq : ∀ y h' tk' new, Fr h₀ L h' m → News h₀ L h' ((I, oI) :: (C, oC) :: (D, lst ys) :: (new ++ tps)) → (∀ q ∈ new, q.1 ≠ I ∧ q.1 ≠ C ∧ q.1 ≠ D) → DatAll (new ++ tps) (ys ++ [y]) ((xs ++ [n]).map pdPl) → Q' y { heap := h', gens := g, drawn := d, toks := tk', os := os })
    (F : Fr h₀ L h' m) (N : News h₀ L h' ((T2, tupO [.ref T1, .int n u]) :: (T1, tupO [.int (placeN n) t1, .int n u]) :: (I, oI) :: (C, oC) :: (D, lst ys) :: tps)) (hJ : DatAll tps ys (xs.map pdPl))
    (l1 : ∀ q ∈ (I, oI) :: (C, oC) :: (D, lst ys) :: tps, q.1 < T1) (e1 : T2 ≠ I) (e2 : T2 ≠ C) (e3 : T2 ≠ D) : Q' (.ref T2) { heap := h', gens := g, drawn := d, toks := tk, os := os } := by
  refine hq _ h' tk [(T2, tupO [.ref T1, .int n u]), (T1, tupO [.int (placeN n) t1, .int n u])] F (fun q hq => N q ?_) (fun q hq => ?_) ?_
  · rcases List.mem_cons.mp hq with rfl | hq
    · exact .tail _ (.tail _ (.head _))
    · rcases List.mem_cons.mp hq with rfl | hq
      · exact .tail _ (.tail _ (.tail _ (.head _)))
      · rcases List.mem_cons.mp hq with rfl | hq
        · exact .tail _ (.tail _ (.tail _ (.tail _ (.head _))))
        · rcases List.mem_cons.mp hq with rfl | hq
          · exact .head _
          · rcases List.mem_cons.mp hq with rfl | hq
            · exact .tail _ (.head _)
            · exact .tail _ (.tail _ (.tail _ (.tail _ (.tail _ hq))))
  · rcases List.mem_cons.mp hq with rfl | hq
    · exact ⟨e1, e2, e3⟩
    · rw [List.mem_singleton.mp hq]
      exact ⟨Nat.ne_of_gt (l1 _ (.head _)), Nat.ne_of_gt (l1 _ (.tail _ (.head _))), Nat.ne_of_gt (l1 _ (.tail _ (.tail _ (.head _))))⟩
  · rw [List.map_append]
    refine (hJ.mono fun q hq => List.mem_append_right _ hq).append (.one ?_)
    exact .tuple (vs := [.ref T1, .int n u]) (.head _) (.cons (.tuple (vs := [.int (placeN n) t1, .int n u]) (.tail _ (.head _)) (.cons (.int _ _) (.cons (.int _ _) .nil))) (.cons (.int _ _) .nil))
set_option maxHeartbeats 8000000 in
theorem s4 : ∀ (w : World) (p : Program) (loose : List Str) (mean : ExcName → Option Value) (mg mb : Str → Option Value) (fa : Addr) (cd : Value) (base h₀ : Heap) (L : Addr) (s : Shared) (Q : Flow → Shared → Prop) (E : Value → Shared → Prop) (l lv pk : Addr) (vs ps : List Value) (ns P : List Int) (c c' : Nat) (num : Option Value) (tups : List (Addr × Obj)),
    Below callerA base [] h₀ → Fr h₀ L s.heap (fun y => if y = sn "packed" then some (Value.ref pk) else if y = sn "number" then num else if y = sn "values" then some (Value.ref lv) else List.lookup y [(sn "script", Value.ref l)]) → (KF w.params).In h₀ →
    News h₀ L s.heap ((pk, listOf (List.toArray ps) c') :: (lv, listOf vs.toArray c) :: tups) → Top p loose mean mg mb h₀ →
    IntsAre vs ns → ns.length ≤ 8 → (∀ n ∈ ns, inR n) → DatAll tups ps (P.map pdP) → P.Perm ns → (P.map prank).Pairwise (· < ·) → (ns.map prank).Nodup → PlaceOk ns →
    (∀ h' tk, Fr h₀ L h' (fun y => if y = sn "packed" then some (Value.ref pk) else if y = sn "number" then num else if y = sn "values" then some (Value.ref lv) else List.lookup y [(sn "script", Value.ref l)]) → News h₀ L h' ((pk, listOf (List.toArray ps) c') :: (lv, listOf vs.toArray c) :: tups) → Q .next { s with heap := h', toks := tk }) →
    wpAny (model PySem.Challenge.rw_vn0026_01.prog w) (lawA L fa cd) (exec (lawBody.getD 3 (.Pass ⟨0, 0, 0, 0⟩)) (lawE L fa cd)) Q E s := by
  k_fill
  w_on
  intro w p loose mean mg mb fa cd base h₀ L s Q E l lv pk vs ps ns P c c' num tups B F X N T hI h8 hr hd hp hps hnd hpl hQ
  unfold lawA lawE at *
  generalize hS : lawSc = sc at *
  conv at hS => lhs; whnf
  subst hS
  generalize hb : lawBody.getD 3 (.Pass ⟨0, 0, 0, 0⟩) = bd
  conv at hb => lhs; whnf
  subst hb
  have hP8 : P.length ≤ 8 := by rw [hp.length_eq]; exact h8
  obtain ⟨hh, g, d, t0, os⟩ := s
  k_steps
  refine compSnd (nd := tups) (f := fun n => .bytes (packB n)) (p := fun _ => true) rfl (by decide) rfl rfl rfl (by decide) (by k_asm) (by k_asm) (.head _) hd (fun q hq => .tail _ (.tail _ hq)) hP8 (fun x u C oC h tk m₂ Q' E' _ _ _ _ _ hq => tests_nil (hq _)) fun D1 h1 tk1 ys1 F1 N1 lt1 hI1 => ?_
  rw [List.filter_eq_self.mpr (fun _ _ => rfl)] at hI1
  clear F N
  k_steps
  refine compG (p := fun _ => true) (View := fun i m₂ => ∃ n u, ns[i]? = some n ∧ m₂ (sn "value") = some (.int n u)) (J := fun i ys tups => DatAll tups ys ((ns.take i).map pdPl)) rfl (by decide) rfl (by k_asm) (by k_asm) (.tail _ (.tail _ (.head _))) (by rw [hI.length]; exact h8) .nil ?_ ?_ ?_ ?_ ?_ ?_
  · intro I i h tk v Q' E' hit hv hq
    exact wpAny_of_eq (a := ()) rfl hq
  · intro i v C h tk m' Q' E' hv hn N' hq
    obtain ⟨n, t, rfl, hx⟩ := ints_at hI hv
    refine wpAny_assign_Name (wpAny_storeName_local rfl hn (fun h₃ hn₃ hs₃ => ?_) rfl)
    exact hq h₃ _ _ hn₃ ⟨n, t, hx, if_pos rfl⟩ fun b o hb e => hs₃.extBut b o hb e
  · intro i C oC h tk m₂ Q' E' hi hC _ F' N' hq
    exact tests_nil (hq tk)
  · intro i I oI C oC D h tk m₂ ys tps Q' E' hi hpp hC ⟨n, u, hx, hv⟩ F' N' hJ hs hq
    have hrn := hr n (List.mem_of_getElem? hx)
    clear F1 N1
    dsimp only
    k_steps
    rename Fr h₀ L _ _ => F9
    rename News h₀ L _ _ => N9
    rename ∀ q : Addr × Obj, q ∈ (_ :: _ : List (Addr × Obj)) → q.1 < _ => l9
    rw [take_snoc hx] at hq
    exact fin_pl hq F9 N9 hJ l9 (by k_ne) (by k_ne) (by k_ne)
  · intro i ys tps _ hf _
    cases hf
  · intro D h tk ys tps F' N' hs hlt hJ
    rw [hI.length, List.take_length] at hJ
    clear F1 N1
    k_steps
    refine sorted_place (nd := tps) (by exact Nat.le_of_ble_eq_true rfl) F' N' (fun q hq => .tail _ hq) ⟨_, (N' _ (.head _)).1, rfl, _, rfl⟩ hJ (by omega) hnd hpl fun D2 c2 h2 ws P2 F2 N2 lt2 hw2 hp2 hps2 => ?_
    refine compSnd (nd := tps) (f := fun n => .tuple [.int (placeN n), .int n]) (p := fun _ => true) rfl (by decide) rfl rfl rfl (by decide) F2 N2 (.head _) hw2 (fun q hq => .tail _ (.tail _ hq)) (by rw [hp2.length_eq]; exact h8) (fun x u C oC h tk m₂ Q' E' _ _ _ _ _ hq => tests_nil (hq _)) fun D3 h3 tk3 ys3 F3 N3 lt3 hI3 => ?_
    rw [List.filter_eq_self.mpr (fun _ _ => rfl)] at hI3
    clear F' N' F2 N2
    have e1 : (D1, lst ys1) ∈ _ := List.mem_cons_of_mem (D3, lst ys3) (List.mem_cons_of_mem (D2, listOf (List.toArray ws) c2) (List.mem_cons_of_mem (D, lst ys) (hs _ (.head _))))
    refine ne_ints N3 e1 hI1 (.head _) hI3 (by exact Nat.le_of_ble_eq_true rfl) (sorted_one (hp.trans hp2.symm) hps hps2) ?_
    k_steps
    exact hQ h3 _ F3 fun q hq => N3 q (.tail _ (.tail _ (.tail _ (hs _ (.tail _ hq)))))
end Mine

end
local macro_rules | `(tactic| walk_at "zz") => `(tactic| fail)
local macro_rules | `(tactic| walk_at "zz") => `(tactic| fail)
local macro_rules | `(tactic| walk_at "zz") => `(tactic| fail)
section
open PySem PySem.W PyProof.Rows PySem.Calls PyProof.Rows.LCg
namespace Mine
local macro_rules | `(tactic| k_room) => `(tactic| (simp only [depth_under_make, depth_under_kw, depth_in1, depth_deeper, depth_caller, aup_depth, alow_depth, amid_depth]; decide))
local macro_rules | `(tactic| walk_at "eval ListComp") => `(tactic| (k_here; refine comp_openG ?_ (by intro _; with_unfolding_all rfl) (by with_unfolding_all rfl) (by rfl) (by decide)))
local macro_rules | `(tactic| walk_at "call ref") => `(tactic| (k_here; (with_reducible show wpAny _ _ (call (Value.ref 1235) [Value.int _ _]) _ _ _); k_dflt (refine' enc_K ?k1 ?k2 ?k3 ?k4 ?k5 ?k6 ?k6b ?k7 ?k8 ?k9 ?k10 ?k11 ?k12 ?_; (case k1 => k_asm); (case k2 => k_asm); (case k3 => k_asm); (case k4 => k_asm); (case k5 => k_asm); (case k6 => exact rfl); (case k6b => exact rfl); (case k7 => exact rfl); (case k8 => exact rfl); (case k9 => exact Nat.le_of_ble_eq_true rfl); (case k10 => exact Nat.le_of_ble_eq_true rfl); (case k11 => omega); (case k12 => omega); k_whole; intro t' h' tk' F' N')))
set_option maxHeartbeats 8000000 in
theorem s5 : ∀ (w : World) (p : Program) (loose : List Str) (mean : ExcName → Option Value) (mg mb : Str → Option Value) (fa : Addr) (cd : Value) (base h₀ : Heap) (L : Addr) (s : Shared) (Q : Flow → Shared → Prop) (E : Value → Shared → Prop) (l lv pk wh wr lo hi sz : Addr) (num : Option Value) (led : List (Addr × Obj)) (vs : List Value) (ns : List Int) (c : Nat),
    Below callerA base [] h₀ → Fr h₀ L s.heap (fun y => if y = sn "packed" then some (Value.ref pk) else if y = sn "number" then num else if y = sn "values" then some (Value.ref lv) else List.lookup y [(sn "script", Value.ref l)]) → (KF w.params).In h₀ →
    News h₀ L s.heap led → Top p loose mean mg mb h₀ →
    IntsAre vs ns → ns.length ≤ 8 → (lv, listOf vs.toArray c) ∈ led →
    (∀ wh h' tk ws, Fr h₀ L h' (fun y => if y = sn "whole" then some (Value.ref wh) else if y = sn "packed" then some (Value.ref pk) else if y = sn "number" then num else if y = sn "values" then some (Value.ref lv) else List.lookup y [(sn "script", Value.ref l)]) → News h₀ L h' ((wh, lst ws) :: led) → IntsAre ws (ns.filter fun n => decide (0 ≤ n)) → Q .next { s with heap := h', toks := tk }) →
    wpAny (model PySem.Challenge.rw_vn0026_01.prog w) (lawA L fa cd) (exec (lawBody.getD 4 (.Pass ⟨0, 0, 0, 0⟩)) (lawE L fa cd)) Q E s := by
  k_fill
  w_on
  intro w p loose mean mg mb fa cd base h₀ L s Q E l lv pk wh wr lo hi sz num led vs ns c B F X N T hI h8 hm hQ
  unfold lawA lawE at *
  generalize hS : lawSc = sc at *
  conv at hS => lhs; whnf
  subst hS
  generalize hb : lawBody.getD 4 (.Pass ⟨0, 0, 0, 0⟩) = bd
  conv at hb => lhs; whnf
  subst hb
  obtain ⟨hh, g, d, t0, os⟩ := s
  refine assign_compInt (src := lv) (p := fun n => decide (0 ≤ n)) (by with_unfolding_all rfl) (by intro _; rfl) (by with_unfolding_all rfl) rfl (by decide) rfl (by decide) rfl (by decide) rfl rfl (fun Q' hq => ?_) F N hm hI h8 (fun n u C oC h tk m₂ Q' E' hn hC hv F' N' hq => ?_) fun D h tk ys F' N' hlt hys => ?_
  · k_steps
    exact hq
  · refine tests_one ?_
    k_steps
    exact hq _
  · exact hQ D h tk ys F' N' hys
end Mine

end
local macro_rules | `(tactic| walk_at "zz") => `(tactic| fail)
local macro_rules | `(tactic| walk_at "zz") => `(tactic| fail)
local macro_rules | `(tactic| walk_at "zz") => `(tactic| fail)
section
open PySem PySem.W PyProof.Rows PySem.Calls PyProof.Rows.LCg
namespace Mine
local macro_rules | `(tactic| k_room) => `(tactic| (simp only [depth_under_make, depth_under_kw, depth_in1, depth_deeper, depth_caller, aup_depth, alow_depth, amid_depth]; decide))
local macro_rules | `(tactic| walk_at "eval ListComp") => `(tactic| (k_here; refine comp_openG ?_ (by intro _; with_unfolding_all rfl) (by with_unfolding_all rfl) (by rfl) (by decide)))
local macro_rules | `(tactic| walk_at "call ref") => `(tactic| (k_here; (with_reducible show wpAny _ _ (call (Value.ref 1235) [Value.int _ _]) _ _ _); k_dflt (refine' enc_K ?k1 ?k2 ?k3 ?k4 ?k5 ?k6 ?k6b ?k7 ?k8 ?k9 ?k10 ?k11 ?k12 ?_; (case k1 => k_asm); (case k2 => k_asm); (case k3 => k_asm); (case k4 => k_asm); (case k5 => k_asm); (case k6 => exact rfl); (case k6b => exact rfl); (case k7 => exact rfl); (case k8 => exact rfl); (case k9 => exact Nat.le_of_ble_eq_true rfl); (case k10 => exact Nat.le_of_ble_eq_true rfl); (case k11 => omega); (case k12 => omega); k_whole; intro t' h' tk' F' N')))
abbrev pdE (n : Int) : Dat := .tuple [.bytes (encB n), .int n]
def erank (v : Int) : Int := if v = 0 then 128 else if v < 128 then v else v + 129
def EncOk (ns : List Int) : Prop := ∀ x ∈ ns, ∀ y ∈ ns, (if rawL (serL x) = rawL (serL y) then decide (x < y) else bl (rawL (serL x)) (rawL (serL y))) = decide (erank x < erank y)
theorem fin_en {h₀ : Heap} {L : Addr} {m : Str → Option Value} {I C D : Addr} {oI oC : Obj} {ys : List Value} {tps : List (Addr × Obj)} {h' : Heap} {g : Array GenState} {d : Drawn} {tk : Nat} {os : OsState} {n : Int} {u t1 : Tok} {T2 : Addr} {xs : List Int} {Q' : Value → Shared → Prop}
    (hq : ∀ y h' tk' new, Fr h₀ L h' m → News h₀ L h' ((I, oI) :: (C, oC) :: (D, lst ys) :: (new ++ tps)) → (∀ q ∈ new, q.1 ≠ I ∧ q.1 ≠ C ∧ q.1 ≠ D) → DatAll (new ++ tps) (ys ++ [y]) ((xs ++ [n]).map pdE) → Q' y { heap := h', gens := g, drawn := d, toks := tk', os := os })
    (F : Fr h₀ L h' m) (N : News h₀ L h' ((T2, tupO [.bytes (encB n) t1, .int n u]) :: (I, oI) :: (C, oC) :: (D, lst ys) :: tps)) (hJ : DatAll tps ys (xs.map pdE))
    (e1 : T2 ≠ I) (e2 : T2 ≠ C) (e3 : T2 ≠ D) : Q' (.ref T2) { heap := h', gens := g, drawn := d, toks := tk, os := os } := by
  refine hq _ h' tk [(T2, tupO [.bytes (encB n) t1, .int n u])] F (fun q hq => N q ?_) (fun q hq => ?_) ?_
  · rcases List.mem_cons.mp hq with rfl | hq
    · exact .tail _ (.head _)
    · rcases List.mem_cons.mp hq with rfl | hq
      · exact .tail _ (.tail _ (.head _))
      · rcases List.mem_cons.mp hq with rfl | hq
        · exact .tail _ (.tail _ (.tail _ (.head _)))
        · rcases List.mem_cons.mp hq with rfl | hq
          · exact .head _
          · exact .tail _ (.tail _ (.tail _ (.tail _ hq)))
  · rw [List.mem_singleton.mp hq]
    exact ⟨e1, e2, e3⟩
  · rw [List.map_append]
    exact (hJ.mono fun q hq => List.mem_append_right _ hq).append (.one (.tuple (vs := [.bytes (encB n) t1, .int n u]) (.head _) (.cons (.bytes _ _) (.cons (.int _ _) .nil))))
set_option maxHeartbeats 8000000 in
theorem s6 : ∀ (w : World) (p : Program) (loose : List Str) (mean : ExcName → Option Value) (mg mb : Str → Option Value) (fa : Addr) (cd : Value) (base h₀ : Heap) (L : Addr) (s : Shared) (Q : Flow → Shared → Prop) (E : Value → Shared → Prop) (l lv pk wh wr lo hi sz : Addr) (num : Option Value) (led : List (Addr × Obj)) (ws : List Value) (ns : List Int),
    Below callerA base [] h₀ → Fr h₀ L s.heap (fun y => if y = sn "whole" then some (Value.ref wh) else if y = sn "packed" then some (Value.ref pk) else if y = sn "number" then num else if y = sn "values" then some (Value.ref lv) else List.lookup y [(sn "script", Value.ref l)]) → (KF w.params).In h₀ →
    News h₀ L s.heap led → Top p loose mean mg mb h₀ →
    IntsAre ws ns → ns.length ≤ 8 → (wh, lst ws) ∈ led → (∀ n ∈ ns, 0 ≤ n ∧ n < 18446744073709551616) → (ns.map erank).Nodup → EncOk ns →
    (∀ (wr : Addr) (c' : Nat) (h' : Heap) (tk : Nat) (rs : List Value) (W : List Int) (nd led' : List (Addr × Obj)), Fr h₀ L h' (fun y => if y = sn "written" then some (Value.ref wr) else if y = sn "whole" then some (Value.ref wh) else if y = sn "packed" then some (Value.ref pk) else if y = sn "number" then num else if y = sn "values" then some (Value.ref lv) else List.lookup y [(sn "script", Value.ref l)]) → News h₀ L h' ((wr, listOf (List.toArray rs) c') :: led') → (∀ q ∈ led, q ∈ led') → (∀ q ∈ nd, q ∈ led') → DatAll nd rs (W.map pdE) → W.Perm ns → (W.map erank).Pairwise (· < ·) → Q .next { s with heap := h', toks := tk }) →
    wpAny (model PySem.Challenge.rw_vn0026_01.prog w) (lawA L fa cd) (exec (lawBody.getD 5 (.Pass ⟨0, 0, 0, 0⟩)) (lawE L fa cd)) Q E s := by
  k_fill
  w_on
  intro w p loose mean mg mb fa cd base h₀ L s Q E l lv pk wh wr lo hi sz num led ws ns B F X N T hI h8 hm hr hnd hok hQ
  unfold lawA lawE at *
  generalize hS : lawSc = sc at *
  conv at hS => lhs; whnf
  subst hS
  generalize hb : lawBody.getD 5 (.Pass ⟨0, 0, 0, 0⟩) = bd
  conv at hb => lhs; whnf
  subst hb
  obtain ⟨hh, g, d, t0, os⟩ := s
  k_steps
  refine compG (p := fun _ => true) (View := fun i m₂ => ∃ n u, ns[i]? = some n ∧ m₂ (sn "value") = some (.int n u)) (J := fun i ys tups => DatAll tups ys ((ns.take i).map pdE)) rfl (by decide) rfl (by k_asm) (by k_asm) hm (by rw [hI.length]; exact h8) .nil ?_ ?_ ?_ ?_ ?_ ?_
  · intro I i h tk v Q' E' hit hv hq
    exact wpAny_of_eq (a := ()) rfl hq
  · intro i v C h tk m' Q' E' hv hn N' hq
    obtain ⟨n, t, rfl, hx⟩ := ints_at hI hv
    refine wpAny_assign_Name (wpAny_storeName_local rfl hn (fun h₃ hn₃ hs₃ => ?_) rfl)
    exact hq h₃ _ _ hn₃ ⟨n, t, hx, if_pos rfl⟩ fun b o hb e => hs₃.extBut b o hb e
  · intro i C oC h tk m₂ Q' E' hi hC _ F' N' hq
    exact tests_nil (hq tk)
  · intro i I oI C oC D h tk m₂ ys tps Q' E' hi hpp hC ⟨n, u, hx, hv⟩ F' N' hJ hs hq
    have hrn := hr n (List.mem_of_getElem? hx)
    have hr1 := hrn.1
    have hr2 := hrn.2
    clear F N
    dsimp only
    k_steps
    rename Fr h₀ L _ _ => F9
    rename News h₀ L _ _ => N9
    rw [take_snoc hx] at hq
    exact fin_en hq F9 N9 hJ (by k_ne) (by k_ne) (by k_ne)
  · intro i ys tps _ hf _
    cases hf
  · intro D h tk ys tps F' N' hs hlt hJ
    rw [hI.length, List.take_length] at hJ
    clear F N
    k_steps
    refine sorted_pairs (f := encB) (key := erank) (nd := tps) F' N' (fun q hq => .tail _ hq) ⟨_, (N' _ (.head _)).1, rfl, _, rfl⟩ hJ (by omega) hnd hok fun D2 c2 h2 rs W F2 N2 lt2 hw2 hp2 hps2 => ?_
    clear F' N'
    dsimp only
    k_steps
    rename Fr h₀ L _ _ => F9
    rename News h₀ L _ _ => N9
    exact hQ D2 c2 _ _ rs W tps _ F9 N9 (fun q hq => .tail _ (hs q hq)) (fun q hq => .tail _ hq) hw2 hp2 hps2
end Mine

end
local macro_rules | `(tactic| walk_at "zz") => `(tactic| fail)
local macro_rules | `(tactic| walk_at "zz") => `(tactic| fail)
local macro_rules | `(tactic| walk_at "zz") => `(tactic| fail)
section
open PySem PySem.W PyProof.Rows PySem.Calls PyProof.Rows.LCg
namespace Mine
local macro_rules | `(tactic| k_room) => `(tactic| (simp only [depth_under_make, depth_under_kw, depth_in1, depth_deeper, depth_caller, aup_depth, alow_depth, amid_depth]; decide))
local macro_rules | `(tactic| walk_at "eval ListComp") => `(tactic| (k_here; refine comp_openG ?_ (by intro _; with_unfolding_all rfl) (by with_unfolding_all rfl) (by rfl) (by decide)))
local macro_rules | `(tactic| walk_at "call ref") => `(tactic| (k_here; (with_reducible show wpAny _ _ (call (Value.ref 1235) [Value.int _ _]) _ _ _); k_dflt (refine' enc_K ?k1 ?k2 ?k3 ?k4 ?k5 ?k6 ?k6b ?k7 ?k8 ?k9 ?k10 ?k11 ?k12 ?_; (case k1 => k_asm); (case k2 => k_asm); (case k3 => k_asm); (case k4 => k_asm); (case k5 => k_asm); (case k6 => exact rfl); (case k6b => exact rfl); (case k7 => exact rfl); (case k8 => exact rfl); (case k9 => exact Nat.le_of_ble_eq_true rfl); (case k10 => exact Nat.le_of_ble_eq_true rfl); (case k11 => omega); (case k12 => omega); k_whole; intro t' h' tk' F' N')))
set_option maxHeartbeats 8000000 in
theorem s7 : ∀ (w : World) (p : Program) (loose : List Str) (mean : ExcName → Option Value) (mg mb : Str → Option Value) (fa : Addr) (cd : Value) (base h₀ : Heap) (L : Addr) (s : Shared) (Q : Flow → Shared → Prop) (E : Value → Shared → Prop) (l lv pk wh wr lo hi sz : Addr) (num : Option Value) (led : List (Addr × Obj)) (ws : List Value) (ns : List Int),
    Below callerA base [] h₀ → Fr h₀ L s.heap (fun y => if y = sn "written" then some (Value.ref wr) else if y = sn "whole" then some (Value.ref wh) else if y = sn "packed" then some (Value.ref pk) else if y = sn "number" then num else if y = sn "values" then some (Value.ref lv) else List.lookup y [(sn "script", Value.ref l)]) → (KF w.params).In h₀ →
    News h₀ L s.heap led → Top p loose mean mg mb h₀ →
    IntsAre ws ns → ns.length ≤ 8 → (wh, lst ws) ∈ led →
    (∀ (lo hi : Addr) (c1 c2 : Nat) (h' : Heap) (tk : Nat) (ls hs : List Value) (Lo Hi : List Int) (led' : List (Addr × Obj)), Fr h₀ L h' (fun y => if y = sn "low" then some (Value.ref lo) else if y = sn "high" then some (Value.ref hi) else if y = sn "written" then some (Value.ref wr) else if y = sn "whole" then some (Value.ref wh) else if y = sn "packed" then some (Value.ref pk) else if y = sn "number" then num else if y = sn "values" then some (Value.ref lv) else List.lookup y [(sn "script", Value.ref l)]) → News h₀ L h' led' → (∀ q ∈ led, q ∈ led') → (lo, listOf (List.toArray ls) c1) ∈ led' → (hi, listOf (List.toArray hs) c2) ∈ led' → IntsAre ls Lo → IntsAre hs Hi → Lo.Perm (ns.filter fun n => decide (0 < n) && decide (n < 128)) → Lo.Pairwise (· ≤ ·) → Hi.Perm (ns.filter fun n => decide (127 < n)) → Hi.Pairwise (· ≤ ·) → Q .next { s with heap := h', toks := tk }) →
    wpAny (model PySem.Challenge.rw_vn0026_01.prog w) (lawA L fa cd) (exec (lawBody.getD 6 (.Pass ⟨0, 0, 0, 0⟩)) (lawE L fa cd)) Q E s := by
  k_fill
  w_on
  intro w p loose mean mg mb fa cd base h₀ L s Q E l lv pk wh wr lo hi sz num led ws ns B F X N T hI h8 hm hQ
  unfold lawA lawE at *
  generalize hS : lawSc = sc at *
  conv at hS => lhs; whnf
  subst hS
  generalize hb : lawBody.getD 6 (.Pass ⟨0, 0, 0, 0⟩) = bd
  conv at hb => lhs; whnf
  subst hb
  obtain ⟨hh, g, d, t0, os⟩ := s
  k_steps
  refine compInt (src := wh) (p := fun n => decide (0 < n) && decide (n < 128)) rfl (by decide) rfl rfl (by decide) (by k_asm) (by k_asm) hm hI h8 (fun n u C oC h tk m₂ Q' E' hn hC hv F' N' hq => ?_) fun D1 h1 tk1 ys1 F1 N1 lt1 hys1 => ?_
  · refine tests_one ?_
    clear F N
    k_steps
    · rename 0 < n => ha
      rw [decide_eq_true ha, Bool.true_and] at hq
      exact hq _
    · rename ¬ 0 < n => ha
      rw [decide_eq_false ha, Bool.false_and] at hq
      exact hq _
  clear F N
  dsimp only
  k_steps
  have hlen1 := List.length_filter_le (fun n => decide (0 < n) && decide (n < 128)) ns
  refine kso_sorted F1 N1 ⟨_, (N1 _ (.head _)).1, rfl, _, rfl⟩ hys1 (by omega) fun D2 ls Lo c1 h2 F2 N2 lt2 hLo hl2 hp2 hs2 _ => ?_
  clear F1 N1
  dsimp only
  k_steps
  refine compInt (src := wh) (p := fun n => decide (127 < n)) rfl (by decide) rfl rfl (by decide) (by k_asm) (by k_asm) (.tail _ (.tail _ hm)) hI h8 (fun n u C oC h tk m₂ Q' E' hn hC hv F' N' hq => ?_) fun D3 h3 tk3 ys3 F3 N3 lt3 hys3 => ?_
  · refine tests_one ?_
    clear F2 N2
    k_steps
    exact hq _
  clear F2 N2
  dsimp only
  k_steps
  have hlen3 := List.length_filter_le (fun n => decide (127 < n)) ns
  refine kso_sorted F3 N3 ⟨_, (N3 _ (.head _)).1, rfl, _, rfl⟩ hys3 (by omega) fun D4 hs Hi c2 h4 F4 N4 lt4 hHi hl4 hp4 hs4 _ => ?_
  clear F3 N3
  dsimp only
  k_steps
  rename Fr h₀ L _ _ => F9
  rename News h₀ L _ _ => N9
  exact hQ D2 D4 c1 c2 _ _ ls hs Lo Hi _ F9 N9 (fun q hq => .tail _ (.tail _ (.tail _ (.tail _ (.tail _ hq))))) (.tail _ (.tail _ (.tail _ (.head _)))) (.tail _ (.head _)) hLo hHi hp2 hs2 hp4 hs4
end Mine

end
local macro_rules | `(tactic| walk_at "zz") => `(tactic| fail)
local macro_rules | `(tactic| walk_at "zz") => `(tactic| fail)
local macro_rules | `(tactic| walk_at "zz") => `(tactic| fail)
section
open PySem PySem.W PyProof.Rows PySem.Calls PyProof.Rows.LCg
namespace Mine
local macro_rules | `(tactic| k_room) => `(tactic| (simp only [depth_under_make, depth_under_kw, depth_in1, depth_deeper, depth_caller, aup_depth, alow_depth, amid_depth]; decide))
local macro_rules | `(tactic| walk_at "eval ListComp") => `(tactic| (k_here; refine comp_openG ?_ (by intro _; with_unfolding_all rfl) (by with_unfolding_all rfl) (by rfl) (by decide)))
local macro_rules | `(tactic| walk_at "call ref") => `(tactic| (k_here; (with_reducible show wpAny _ _ (call (Value.ref 1235) [Value.int _ _]) _ _ _); k_dflt (refine' enc_K ?k1 ?k2 ?k3 ?k4 ?k5 ?k6 ?k6b ?k7 ?k8 ?k9 ?k10 ?k11 ?k12 ?_; (case k1 => k_asm); (case k2 => k_asm); (case k3 => k_asm); (case k4 => k_asm); (case k5 => k_asm); (case k6 => exact rfl); (case k6b => exact rfl); (case k7 => exact rfl); (case k8 => exact rfl); (case k9 => exact Nat.le_of_ble_eq_true rfl); (case k10 => exact Nat.le_of_ble_eq_true rfl); (case k11 => omega); (case k12 => omega); k_whole; intro t' h' tk' F' N')))
set_option maxHeartbeats 8000000 in
theorem s8 : ∀ (w : World) (p : Program) (loose : List Str) (mean : ExcName → Option Value) (mg mb : Str → Option Value) (fa : Addr) (cd : Value) (base h₀ : Heap) (L : Addr) (s : Shared) (Q : Flow → Shared → Prop) (E : Value → Shared → Prop) (l lv pk wh wr lo hi sz : Addr) (num : Option Value) (led : List (Addr × Obj)) (ws rs ls hs : List Value) (ns W Lo Hi : List Int) (cr c1 c2 : Nat) (nd : List (Addr × Obj)),
    Below callerA base [] h₀ → Fr h₀ L s.heap (fun y => if y = sn "low" then some (Value.ref lo) else if y = sn "high" then some (Value.ref hi) else if y = sn "written" then some (Value.ref wr) else if y = sn "whole" then some (Value.ref wh) else if y = sn "packed" then some (Value.ref pk) else if y = sn "number" then num else if y = sn "values" then some (Value.ref lv) else List.lookup y [(sn "script", Value.ref l)]) → (KF w.params).In h₀ →
    News h₀ L s.heap led → Top p loose mean mg mb h₀ →
    IntsAre ws ns → ns.length ≤ 8 → (wh, lst ws) ∈ led → (wr, listOf (List.toArray rs) cr) ∈ led → DatAll nd rs (W.map pdE) → (∀ q ∈ nd, q ∈ led) → W.length ≤ 8 → (lo, listOf (List.toArray ls) c1) ∈ led → (hi, listOf (List.toArray hs) c2) ∈ led → IntsAre ls Lo → IntsAre hs Hi → Lo.length ≤ 8 → Hi.length ≤ 8 → W = Lo ++ (ns.filter fun n => n == 0) ++ Hi →
    (∀ (h' : Heap) (tk : Nat), Fr h₀ L h' (fun y => if y = sn "low" then some (Value.ref lo) else if y = sn "high" then some (Value.ref hi) else if y = sn "written" then some (Value.ref wr) else if y = sn "whole" then some (Value.ref wh) else if y = sn "packed" then some (Value.ref pk) else if y = sn "number" then num else if y = sn "values" then some (Value.ref lv) else List.lookup y [(sn "script", Value.ref l)]) → News h₀ L h' led → Q .next { s with heap := h', toks := tk }) →
    wpAny (model PySem.Challenge.rw_vn0026_01.prog w) (lawA L fa cd) (exec (lawBody.getD 7 (.Pass ⟨0, 0, 0, 0⟩)) (lawE L fa cd)) Q E s := by
  k_fill
  w_on
  intro w p loose mean mg mb fa cd base h₀ L s Q E l lv pk wh wr lo hi sz num led ws rs ls hs ns W Lo Hi cr c1 c2 nd B F X N T hI h8 hm hmr hdr hsub hW8 hml hmh hLo hHi hlo8 hhi8 heq hQ
  unfold lawA lawE at *
  generalize hS : lawSc = sc at *
  conv at hS => lhs; whnf
  subst hS
  generalize hb : lawBody.getD 7 (.Pass ⟨0, 0, 0, 0⟩) = bd
  conv at hb => lhs; whnf
  subst hb
  obtain ⟨hh, g, d, t0, os⟩ := s
  k_steps
  refine compSnd (nd := nd) (f := fun n => .bytes (encB n)) (p := fun _ => true) rfl (by decide) rfl rfl rfl (by decide) (by k_asm) (by k_asm) hmr hdr hsub hW8 (fun x u C oC h tk m₂ Q' E' _ _ _ _ _ hq => tests_nil (hq _)) fun D1 h1 tk1 ys1 F1 N1 lt1 hI1 => ?_
  rw [List.filter_eq_self.mpr (fun _ _ => rfl)] at hI1
  clear F N
  dsimp only
  k_steps
  refine compInt (src := wh) (p := fun n => n == 0) rfl (by decide) rfl rfl (by decide) (by k_asm) (by k_asm) (.tail _ hm) hI h8 (fun n u C oC h tk m₂ Q' E' hn hC hv F' N' hq => ?_) fun D2 h2 tk2 ys2 F2 N2 lt2 hI2 => ?_
  · refine tests_one ?_
    clear F1 N1
    k_steps
    exact hq _
  clear F1 N1
  dsimp only
  k_steps
  have hl0 := List.length_filter_le (fun n => n == 0) ns
  refine add_lists_ints F2 N2 ⟨_, (N2 _ (.tail _ (.tail _ hml))).1, rfl, _, rfl⟩ ⟨_, (N2 _ (.head _)).1, rfl, _, rfl⟩ hLo hI2 (fun h3 F3 N3 hI3 => ?_) (by rw [sizeLine_eq]; omega)
  generalize Array.size _ = D3 at *
  clear F2 N2
  dsimp only
  k_steps
  refine add_lists_ints F3 N3 ⟨_, (N3 _ (.head _)).1, rfl, _, rfl⟩ ⟨_, (N3 _ (.tail _ (.tail _ (.tail _ hmh)))).1, rfl, _, rfl⟩ hI3 hHi (fun h4 F4 N4 hI4 => ?_) (by rw [sizeLine_eq, List.length_append]; omega)
  generalize Array.size _ = D4 at *
  clear F3 N3
  dsimp only
  refine ne_ints N4 (.tail _ (.tail _ (.tail _ (.head _)))) hI1 (.head _) hI4 (by exact Nat.le_of_ble_eq_true rfl) heq ?_
  k_steps
  exact hQ h4 _ F4 fun q hq => N4 q (.tail _ (.tail _ (.tail _ (.tail _ hq))))
end Mine

end
local macro_rules | `(tactic| walk_at "zz") => `(tactic| fail)
local macro_rules | `(tactic| walk_at "zz") => `(tactic| fail)
local macro_rules | `(tactic| walk_at "zz") => `(tactic| fail)
section
open PySem PySem.W PyProof.Rows PySem.Calls PyProof.Rows.LCg
namespace Mine
local macro_rules | `(tactic| k_room) => `(tactic| (simp only [depth_under_make, depth_under_kw, depth_in1, depth_deeper, depth_caller, aup_depth, alow_depth, amid_depth]; decide))
local macro_rules | `(tactic| walk_at "eval ListComp") => `(tactic| (k_here; refine comp_openG ?_ (by intro _; with_unfolding_all rfl) (by with_unfolding_all rfl) (by rfl) (by decide)))
local macro_rules | `(tactic| walk_at "call ref") => `(tactic| (k_here; (with_reducible show wpAny _ _ (call (Value.ref 1235) [Value.int _ _]) _ _ _); k_dflt (refine' enc_K ?k1 ?k2 ?k3 ?k4 ?k5 ?k6 ?k6b ?k7 ?k8 ?k9 ?k10 ?k11 ?k12 ?_; (case k1 => k_asm); (case k2 => k_asm); (case k3 => k_asm); (case k4 => k_asm); (case k5 => k_asm); (case k6 => exact rfl); (case k6b => exact rfl); (case k7 => exact rfl); (case k8 => exact rfl); (case k9 => exact Nat.le_of_ble_eq_true rfl); (case k10 => exact Nat.le_of_ble_eq_true rfl); (case k11 => omega); (case k12 => omega); k_whole; intro t' h' tk' F' N')))
set_option maxHeartbeats 8000000 in
theorem s9 : ∀ (w : World) (p : Program) (loose : List Str) (mean : ExcName → Option Value) (mg mb : Str → Option Value) (fa : Addr) (cd : Value) (base h₀ : Heap) (L : Addr) (s : Shared) (Q : Flow → Shared → Prop) (E : Value → Shared → Prop) (l lv pk wh wr lo hi sz : Addr) (num : Option Value) (led : List (Addr × Obj)) (ps rs : List Value) (P W : List Int) (cp cr : Nat) (ndp nd : List (Addr × Obj)),
    Below callerA base [] h₀ → Fr h₀ L s.heap (fun y => if y = sn "low" then some (Value.ref lo) else if y = sn "high" then some (Value.ref hi) else if y = sn "written" then some (Value.ref wr) else if y = sn "whole" then some (Value.ref wh) else if y = sn "packed" then some (Value.ref pk) else if y = sn "number" then num else if y = sn "values" then some (Value.ref lv) else List.lookup y [(sn "script", Value.ref l)]) → (KF w.params).In h₀ →
    News h₀ L s.heap led → Top p loose mean mg mb h₀ →
    (pk, listOf (List.toArray ps) cp) ∈ led → DatAll ndp ps (P.map pdP) → (∀ q ∈ ndp, q ∈ led) → P.length ≤ 8 → (wr, listOf (List.toArray rs) cr) ∈ led → DatAll nd rs (W.map pdE) → (∀ q ∈ nd, q ∈ led) → W.length ≤ 8 → P.filter (fun n => decide (0 < n)) = W.filter (fun n => decide (0 < n)) →
    (∀ (h' : Heap) (tk : Nat), Fr h₀ L h' (fun y => if y = sn "low" then some (Value.ref lo) else if y = sn "high" then some (Value.ref hi) else if y = sn "written" then some (Value.ref wr) else if y = sn "whole" then some (Value.ref wh) else if y = sn "packed" then some (Value.ref pk) else if y = sn "number" then num else if y = sn "values" then some (Value.ref lv) else List.lookup y [(sn "script", Value.ref l)]) → News h₀ L h' led → Q .next { s with heap := h', toks := tk }) →
    wpAny (model PySem.Challenge.rw_vn0026_01.prog w) (lawA L fa cd) (exec (lawBody.getD 8 (.Pass ⟨0, 0, 0, 0⟩)) (lawE L fa cd)) Q E s := by
  k_fill
  w_on
  intro w p loose mean mg mb fa cd base h₀ L s Q E l lv pk wh wr lo hi sz num led ps rs P W cp cr ndp nd B F X N T hmp hdp hsp hP8 hmr hdr hsub hW8 heq hQ
  unfold lawA lawE at *
  generalize hS : lawSc = sc at *
  conv at hS => lhs; whnf
  subst hS
  generalize hb : lawBody.getD 8 (.Pass ⟨0, 0, 0, 0⟩) = bd
  conv at hb => lhs; whnf
  subst hb
  obtain ⟨hh, g, d, t0, os⟩ := s
  k_steps
  refine compSnd (nd := ndp) (f := fun n => .bytes (packB n)) (p := fun n => decide (0 < n)) rfl (by decide) rfl rfl rfl (by decide) (by k_asm) (by k_asm) hmp hdp hsp hP8 (fun n u C oC h tk m₂ Q' E' hn hC hv F' N' hq => ?_) fun D1 h1 tk1 ys1 F1 N1 lt1 hI1 => ?_
  · refine tests_one ?_
    clear F N
    k_steps
    exact hq _
  clear F N
  dsimp only
  k_steps
  refine compSnd (nd := nd) (f := fun n => .bytes (encB n)) (p := fun n => decide (0 < n)) rfl (by decide) rfl rfl rfl (by decide) (by k_asm) (by k_asm) (.tail _ hmr) hdr (fun q hq => .tail _ (hsub q hq)) hW8 (fun n u C oC h tk m₂ Q' E' hn hC hv F' N' hq => ?_) fun D2 h2 tk2 ys2 F2 N2 lt2 hI2 => ?_
  · refine tests_one ?_
    clear F1 N1
    k_steps
    exact hq _
  clear F1 N1
  dsimp only
  refine ne_ints N2 (.tail _ (.head _)) hI1 (.head _) hI2 (by exact Nat.le_of_ble_eq_true rfl) heq ?_
  k_steps
  exact hQ h2 _ F2 fun q hq => N2 q (.tail _ (.tail _ hq))
end Mine

end
local macro_rules | `(tactic| walk_at "zz") => `(tactic| fail)
local macro_rules | `(tactic| walk_at "zz") => `(tactic| fail)
local macro_rules | `(tactic| walk_at "zz") => `(tactic| fail)
section
open PySem PySem.W PyProof.Rows PySem.Calls
namespace Mine
def szN (n : Int) : Int := if n = 0 then 0 else ((encB n).size : Int)
abbrev pdZ (n : Int) : Dat := .tuple [.int (szN n), .bytes (encB n), .int n]
def SizedOk (ns : List Int) : Prop := ∀ x ∈ ns, ∀ y ∈ ns, (if szN x = szN y then (if rawL (serL x) = rawL (serL y) then decide (x < y) else bl (rawL (serL x)) (rawL (serL y))) else decide (szN x < szN y)) = decide (x < y)
theorem dat_z {news : List (Addr × Obj)} {v : Value} {n : Int} (h : DatIn news v (pdZ n)) : ∃ a t u t' i, v = .ref a ∧ (a, ({ cls := .type "tuple", data := .seq #[.int (szN n) t, .bytes (encB n) u, .int n t'] i } : Obj)) ∈ news := by
  cases h with
  | tuple hm hd =>
    cases hd with
    | cons h1 hd =>
      cases hd with
      | cons h2 hd =>
        cases hd with
        | cons h3 hd =>
          cases hd with
          | nil => cases h1 with
            | int _ t => cases h2 with
              | bytes _ u => cases h3 with
                | int _ t' => exact ⟨_, t, u, t', _, rfl, hm⟩
section
variable {prog : Program} {w : World} {A : Around} {E : Value → Shared → Prop} {s : Shared} {h₀ : Heap} {L : Addr} {news : List (Addr × Obj)}
theorem z_firsts {h : Heap} (N : News h₀ L h news) : ∀ {xs : List Int} {vs : List Value}, DatAll news vs (xs.map pdZ) → ∃ fs, KatTups h vs fs ∧ fs.length = xs.length ∧ ∀ v ∈ fs, ∃ b t, v = Value.int b t
  | [], _, hd => by cases hd; exact ⟨[], .nil, rfl, fun v hv => nomatch hv⟩
  | x :: r, _, hd => by
    cases hd with
    | cons h1 hd =>
      obtain ⟨fs, k1, k2, k3⟩ := z_firsts N hd
      obtain ⟨a, t, u, t', i, rfl, hm⟩ := dat_z h1
      refine ⟨.int (szN x) t :: fs, KatTups.cons (N _ hm).1 rfl rfl rfl k1, by rw [List.length_cons, List.length_cons, k2], fun v hv => ?_⟩
      rcases List.mem_cons.mp hv with rfl | hv
      · exact ⟨_, _, rfl⟩
      · exact k3 v hv
theorem sorted_sized {xs : List Int} {vs : List Value} {l : Addr} {m : Str → Option Value} {Q : Value → Shared → Prop} {nd : List (Addr × Obj)} (F : Fr h₀ L s.heap m) (N : News h₀ L s.heap news) (hsub : ∀ q ∈ nd, q ∈ news) (hl : s.heap.IsList l vs.toArray)
    (hd : DatAll nd vs (xs.map pdZ)) (h64 : xs.length < 64) (hnd : xs.Nodup) (hok : SizedOk xs)
    (h : ∀ D c h' (ws : List Value) (ys : List Int), Fr h₀ L h' m → News h₀ L h' ((D, listOf (List.toArray ws) c) :: news) → (∀ q ∈ news, q.1 < D) → DatAll nd ws (ys.map pdZ) → ys.Perm xs → ys.Pairwise (· < ·) → Q (.ref D) { s with heap := h' }) :
    wpAny (model prog w) A (call (.builtin "sorted") [.ref l]) Q E s := by
  refine sorted_dat (κ := tuples' true) pdZ (fun n => n) F N hl hd h64 (by rw [List.map_id']; exact hnd) (fun h2 s' C N' hc => ?_) (fun s' C v u x y hx hy N' dx dy hc => ?_) fun D c h' ws ys F' N' hD hw hp hs => h D c h' ws ys F' N' hD hw hp (by rw [List.map_id'] at hs; exact hs)
  · obtain ⟨fs, k1, k2, k3⟩ := z_firsts N' (hd.mono hsub)
    rw [hd.length, List.length_map] at h2
    refine kat_kind (T := .type "int") k1 (by omega) (fun v hv => ?_) rfl hc
    obtain ⟨b, t, rfl⟩ := k3 v hv
    exact Looks.of_pure rfl
  · obtain ⟨a, t, u, t', i, rfl, hma⟩ := dat_z (dx.mono hsub)
    obtain ⟨a2, t2, u2, t2', i2, rfl, hma2⟩ := dat_z (dy.mono hsub)
    have hok' := hok x hx y hy
    refine kat_lt (N' _ hma).1 rfl (N' _ hma2).1 rfl ?_
    refine kat_cons (wpAny_eqBool_int ?_)
    by_cases hz : szN x = szN y
    · rw [if_pos hz] at hok'
      rw [hz, beq_self_eq_true]
      refine kat_yes (kat_cons (eqBool_bytes ?_))
      by_cases hb : rawL (serL x) = rawL (serL y)
      · rw [if_pos hb] at hok'
        rw [decide_eq_true (show (encB x).toList = (encB y).toList from hb)]
        refine kat_yes (kat_cons (wpAny_eqBool_int ?_))
        by_cases hn : x = y
        · subst hn
          rw [beq_self_eq_true]
          refine kat_yes (kat_nil ?_)
          rw [decide_eq_false (Int.lt_irrefl _)] at hc
          exact hc
        · rw [beq_eq_false_iff_ne.mpr hn]
          exact kat_no (kat_one _ _ (PySem.wpAny_lt_int hc))
      · rw [if_neg hb] at hok'
        rw [decide_eq_false (show ¬ (encB x).toList = (encB y).toList from hb)]
        refine kat_no (kat_one _ _ (cmp_byl ?_))
        show C (bl (rawL (serL x)) (rawL (serL y))) s'
        rw [hok']
        exact hc
    · rw [if_neg hz] at hok'
      rw [beq_eq_false_iff_ne.mpr hz]
      refine kat_no (oneLt_int ?_)
      rw [hok']
      exact hc
end
theorem fin_z {h₀ : Heap} {L : Addr} {m : Str → Option Value} {I C D : Addr} {oI oC : Obj} {ys : List Value} {tps : List (Addr × Obj)} {h' : Heap} {g : Array GenState} {d : Drawn} {tk : Nat} {os : OsState} {n z : Int} {u t1 t0 : Tok} {T2 : Addr} {xs : List Int} {Q' : Value → Shared → Prop} (hz : z = szN n)
    (hq : ∀ y h' tk' new, Fr h₀ L h' m → News h₀ L h' ((I, oI) :: (C, oC) :: (D, LCg.lst ys) :: (new ++ tps)) → (∀ q ∈ new, q.1 ≠ I ∧ q.1 ≠ C ∧ q.1 ≠ D) → DatAll (new ++ tps) (ys ++ [y]) ((xs ++ [n]).map pdZ) → Q' y { heap := h', gens := g, drawn := d, toks := tk', os := os })
    (F : Fr h₀ L h' m) (N : News h₀ L h' ((T2, tupO [.int z t0, .bytes (encB n) t1, .int n u]) :: (I, oI) :: (C, oC) :: (D, LCg.lst ys) :: tps)) (hJ : DatAll tps ys (xs.map pdZ))
    (e1 : T2 ≠ I) (e2 : T2 ≠ C) (e3 : T2 ≠ D) : Q' (.ref T2) { heap := h', gens := g, drawn := d, toks := tk, os := os } := by
  subst hz
  refine hq _ h' tk [(T2, tupO [.int (szN n) t0, .bytes (encB n) t1, .int n u])] F (fun q hq => N q ?_) (fun q hq => ?_) ?_
  · rcases List.mem_cons.mp hq with rfl | hq
    · exact .tail _ (.head _)
    · rcases List.mem_cons.mp hq with rfl | hq
      · exact .tail _ (.tail _ (.head _))
      · rcases List.mem_cons.mp hq with rfl | hq
        · exact .tail _ (.tail _ (.tail _ (.head _)))
        · rcases List.mem_cons.mp hq with rfl | hq
          · exact .head _
          · exact .tail _ (.tail _ (.tail _ (.tail _ hq)))
  · rw [List.mem_singleton.mp hq]
    exact ⟨e1, e2, e3⟩
  · rw [List.map_append]
    exact (hJ.mono fun q hq => List.mem_append_right _ hq).append (.one (.tuple (vs := [.int (szN n) t0, .bytes (encB n) t1, .int n u]) (.head _) (.cons (.int _ _) (.cons (.bytes _ _) (.cons (.int _ _) .nil)))))
theorem encB_le {n : Int} (h0 : 0 ≤ n) (h1 : n < 18446744073709551616) : (encB n).size ≤ 9 := by
  have h := serL_len h0 h1
  show (rawL (serL n)).toArray.size ≤ 9
  rw [List.size_toArray]
  generalize serL n = b at h ⊢
  match b, h with
  | [], _ => simp [rawL]
  | [c], _ => unfold rawL; dsimp only; split <;> simp
  | c :: e :: r, h => show (_ :: c :: e :: r).length ≤ 9; simp at h ⊢; omega
end Mine

end
local macro_rules | `(tactic| walk_at "zz") => `(tactic| fail)
section
open PySem PySem.W PyProof.Rows PySem.Calls PyProof.Rows.LCg
namespace Mine
local macro_rules | `(tactic| k_room) => `(tactic| (simp only [depth_under_make, depth_under_kw, depth_in1, depth_deeper, depth_caller, aup_depth, alow_depth, amid_depth]; decide))
local macro_rules | `(tactic| walk_at "eval ListComp") => `(tactic| (k_here; refine comp_openG ?_ (by intro _; with_unfolding_all rfl) (by with_unfolding_all rfl) (by rfl) (by decide)))
local macro_rules | `(tactic| walk_at "call ref") => `(tactic| (k_here; (with_reducible show wpAny _ _ (call (Value.ref 1235) [Value.int _ _]) _ _ _); k_dflt (refine' enc_K ?k1 ?k2 ?k3 ?k4 ?k5 ?k6 ?k6b ?k7 ?k8 ?k9 ?k10 ?k11 ?k12 ?_; (case k1 => k_asm); (case k2 => k_asm); (case k3 => k_asm); (case k4 => k_asm); (case k5 => k_asm); (case k6 => exact rfl); (case k6b => exact rfl); (case k7 => exact rfl); (case k8 => exact rfl); (case k9 => exact Nat.le_of_ble_eq_true rfl); (case k10 => exact Nat.le_of_ble_eq_true rfl); (case k11 => omega); (case k12 => omega); k_whole; intro t' h' tk' F' N')))
set_option maxHeartbeats 8000000 in
theorem s10 : ∀ (w : World) (p : Program) (loose : List Str) (mean : ExcName → Option Value) (mg mb : Str → Option Value) (fa : Addr) (cd : Value) (base h₀ : Heap) (L : Addr) (s : Shared) (Q : Flow → Shared → Prop) (E : Value → Shared → Prop) (l lv pk wh wr lo hi sz : Addr) (num : Option Value) (led : List (Addr × Obj)) (ws : List Value) (ns : List Int),
    Below callerA base [] h₀ → Fr h₀ L s.heap (fun y => if y = sn "low" then some (Value.ref lo) else if y = sn "high" then some (Value.ref hi) else if y = sn "written" then some (Value.ref wr) else if y = sn "whole" then some (Value.ref wh) else if y = sn "packed" then some (Value.ref pk) else if y = sn "number" then num else if y = sn "values" then some (Value.ref lv) else List.lookup y [(sn "script", Value.ref l)]) → (KF w.params).In h₀ →
    News h₀ L s.heap led → Top p loose mean mg mb h₀ →
    IntsAre ws ns → ns.length ≤ 8 → (wh, lst ws) ∈ led → (∀ n ∈ ns, 0 ≤ n ∧ n < 18446744073709551616) → ns.Nodup → SizedOk ns →
    (∀ (sz : Addr) (c' : Nat) (h' : Heap) (tk : Nat) (rs : List Value) (Z : List Int) (nd led' : List (Addr × Obj)), Fr h₀ L h' (fun y => if y = sn "sized" then some (Value.ref sz) else if y = sn "low" then some (Value.ref lo) else if y = sn "high" then some (Value.ref hi) else if y = sn "written" then some (Value.ref wr) else if y = sn "whole" then some (Value.ref wh) else if y = sn "packed" then some (Value.ref pk) else if y = sn "number" then num else if y = sn "values" then some (Value.ref lv) else List.lookup y [(sn "script", Value.ref l)]) → News h₀ L h' ((sz, listOf (List.toArray rs) c') :: led') → (∀ q ∈ led, q ∈ led') → (∀ q ∈ nd, q ∈ led') → DatAll nd rs (Z.map pdZ) → Z.Perm ns → Z.Pairwise (· < ·) → Q .next { s with heap := h', toks := tk }) →
    wpAny (model PySem.Challenge.rw_vn0026_01.prog w) (lawA L fa cd) (exec (lawBody.getD 9 (.Pass ⟨0, 0, 0, 0⟩)) (lawE L fa cd)) Q E s := by
  k_fill
  w_on
  intro w p loose mean mg mb fa cd base h₀ L s Q E l lv pk wh wr lo hi sz num led ws ns B F X N T hI h8 hm hr hnd hok hQ
  unfold lawA lawE at *
  generalize hS : lawSc = sc at *
  conv at hS => lhs; whnf
  subst hS
  generalize hb : lawBody.getD 9 (.Pass ⟨0, 0, 0, 0⟩) = bd
  conv at hb => lhs; whnf
  subst hb
  obtain ⟨hh, g, d, t0, os⟩ := s
  k_steps
  refine compG (p := fun _ => true) (View := fun i m₂ => ∃ n u, ns[i]? = some n ∧ m₂ (sn "value") = some (.int n u)) (J := fun i ys tups => DatAll tups ys ((ns.take i).map pdZ)) rfl (by decide) rfl (by k_asm) (by k_asm) hm (by rw [hI.length]; exact h8) .nil ?_ ?_ ?_ ?_ ?_ ?_
  · intro I i h tk v Q' E' hit hv hq
    exact wpAny_of_eq (a := ()) rfl hq
  · intro i v C h tk m' Q' E' hv hn N' hq
    obtain ⟨n, t, rfl, hx⟩ := ints_at hI hv
    refine wpAny_assign_Name (wpAny_storeName_local rfl hn (fun h₃ hn₃ hs₃ => ?_) rfl)
    exact hq h₃ _ _ hn₃ ⟨n, t, hx, if_pos rfl⟩ fun b o hb e => hs₃.extBut b o hb e
  · intro i C oC h tk m₂ Q' E' hi hC _ F' N' hq
    exact tests_nil (hq tk)
  · intro i I oI C oC D h tk m₂ ys tps Q' E' hi hpp hC ⟨n, u, hx, hv⟩ F' N' hJ hs hq
    have hrn := hr n (List.mem_of_getElem? hx)
    have hr1 := hrn.1
    have hr2 := hrn.2
    clear F N
    dsimp only
    k_steps
    · rename Fr h₀ L _ _ => F9
      rename News h₀ L _ _ => N9
      rw [take_snoc hx] at hq
      exact fin_z (by unfold szN; rw [if_pos (by omega)]) hq F9 N9 hJ (by k_ne) (by k_ne) (by k_ne)
    · refine len_bytes (by have := encB_le hr1 hr2; omega) ?_
      k_steps
      rename Fr h₀ L _ _ => F9
      rename News h₀ L _ _ => N9
      rw [take_snoc hx] at hq
      exact fin_z (by unfold szN; rw [if_neg (by omega)]) hq F9 N9 hJ (by k_ne) (by k_ne) (by k_ne)
  · intro i ys tps _ hf _
    cases hf
  · intro D h tk ys tps F' N' hs hlt hJ
    rw [hI.length, List.take_length] at hJ
    clear F N
    k_steps
    refine sorted_sized (nd := tps) F' N' (fun q hq => .tail _ hq) ⟨_, (N' _ (.head _)).1, rfl, _, rfl⟩ hJ (by omega) hnd hok fun D2 c2 h2 rs Z F2 N2 lt2 hw2 hp2 hps2 => ?_
    clear F' N'
    dsimp only
    k_steps
    rename Fr h₀ L _ _ => F9
    rename News h₀ L _ _ => N9
    exact hQ D2 c2 _ _ rs Z tps _ F9 N9 (fun q hq => .tail _ (hs q hq)) (fun q hq => .tail _ hq) hw2 hp2 hps2
end Mine

end
local macro_rules | `(tactic| walk_at "zz") => `(tactic| fail)
local macro_rules | `(tactic| walk_at "zz") => `(tactic| fail)
local macro_rules | `(tactic| walk_at "zz") => `(tactic| fail)
section
open PySem PySem.W PyProof.Rows PySem.Calls PyProof.Rows.LCg
namespace Mine
local macro_rules | `(tactic| k_room) => `(tactic| (simp only [depth_under_make, depth_under_kw, depth_in1, depth_deeper, depth_caller, aup_depth, alow_depth, amid_depth]; decide))
local macro_rules | `(tactic| walk_at "eval ListComp") => `(tactic| (k_here; refine comp_openG ?_ (by intro _; with_unfolding_all rfl) (by with_unfolding_all rfl) (by rfl) (by decide)))
local macro_rules | `(tactic| walk_at "call ref") => `(tactic| (k_here; (with_reducible show wpAny _ _ (call (Value.ref 1235) [Value.int _ _]) _ _ _); k_dflt (refine' enc_K ?k1 ?k2 ?k3 ?k4 ?k5 ?k6 ?k6b ?k7 ?k8 ?k9 ?k10 ?k11 ?k12 ?_; (case k1 => k_asm); (case k2 => k_asm); (case k3 => k_asm); (case k4 => k_asm); (case k5 => k_asm); (case k6 => exact rfl); (case k6b => exact rfl); (case k7 => exact rfl); (case k8 => exact rfl); (case k9 => exact Nat.le_of_ble_eq_true rfl); (case k10 => exact Nat.le_of_ble_eq_true rfl); (case k11 => omega); (case k12 => omega); k_whole; intro t' h' tk' F' N')))
theorem sorted_le_one : ∀ {a b : List Int}, a.Perm b → a.Pairwise (· < ·) → b.Pairwise (· ≤ ·) → a = b
  | [], b, h, _, _ => by rw [List.Perm.nil_eq h]
  | x :: a, [], h, _, _ => absurd h.length_eq (by simp)
  | x :: a, y :: b, h, ha, hb => by
    rw [List.pairwise_cons] at ha hb
    have e : x = y := by
      rcases List.mem_cons.mp (h.mem_iff.mp (List.mem_cons_self (a := x))) with q | q
      · exact q
      · rcases List.mem_cons.mp (h.mem_iff.mpr (List.mem_cons_self (a := y))) with r | r
        · exact r.symm
        · have k1 := hb.1 x q
          have k2 := ha.1 y r
          omega
    subst e
    rw [sorted_le_one (List.Perm.cons_inv h) ha.2 hb.2]
set_option maxHeartbeats 8000000 in
theorem s11 : ∀ (w : World) (p : Program) (loose : List Str) (mean : ExcName → Option Value) (mg mb : Str → Option Value) (fa : Addr) (cd : Value) (base h₀ : Heap) (L : Addr) (s : Shared) (Q : Flow → Shared → Prop) (E : Value → Shared → Prop) (l lv pk wh wr lo hi sz : Addr) (num : Option Value) (led : List (Addr × Obj)) (ws zs : List Value) (ns Z : List Int) (c cz : Nat) (nd : List (Addr × Obj)),
    Below callerA base [] h₀ → Fr h₀ L s.heap (fun y => if y = sn "sized" then some (Value.ref sz) else if y = sn "low" then some (Value.ref lo) else if y = sn "high" then some (Value.ref hi) else if y = sn "written" then some (Value.ref wr) else if y = sn "whole" then some (Value.ref wh) else if y = sn "packed" then some (Value.ref pk) else if y = sn "number" then num else if y = sn "values" then some (Value.ref lv) else List.lookup y [(sn "script", Value.ref l)]) → (KF w.params).In h₀ →
    News h₀ L s.heap led → Top p loose mean mg mb h₀ →
    (sz, listOf (List.toArray zs) cz) ∈ led → DatAll nd zs (Z.map pdZ) → (∀ q ∈ nd, q ∈ led) → Z.length ≤ 8 → (wh, listOf ws.toArray c) ∈ led → IntsAre ws ns → Z.Perm ns → Z.Pairwise (· < ·) →
    (∀ (h' : Heap) (tk : Nat), Fr h₀ L h' (fun y => if y = sn "sized" then some (Value.ref sz) else if y = sn "low" then some (Value.ref lo) else if y = sn "high" then some (Value.ref hi) else if y = sn "written" then some (Value.ref wr) else if y = sn "whole" then some (Value.ref wh) else if y = sn "packed" then some (Value.ref pk) else if y = sn "number" then num else if y = sn "values" then some (Value.ref lv) else List.lookup y [(sn "script", Value.ref l)]) → News h₀ L h' led → Q (.ret (.bool true)) { s with heap := h', toks := tk }) →
    wpAny (model PySem.Challenge.rw_vn0026_01.prog w) (lawA L fa cd) (exec (lawBody.getD 10 (.Pass ⟨0, 0, 0, 0⟩)) (lawE L fa cd)) Q E s := by
  k_fill
  w_on
  intro w p loose mean mg mb fa cd base h₀ L s Q E l lv pk wh wr lo hi sz num led ws zs ns Z c cz nd B F X N T hmz hdz hsub hZ8 hmw hI hp hs hQ
  unfold lawA lawE at *
  generalize hS : lawSc = sc at *
  conv at hS => lhs; whnf
  subst hS
  generalize hb : lawBody.getD 10 (.Pass ⟨0, 0, 0, 0⟩) = bd
  conv at hb => lhs; whnf
  subst hb
  obtain ⟨hh, g, d, t0, os⟩ := s
  k_steps
  refine compThird (nd := nd) (f := fun n => .int (szN n)) (g := fun n => .bytes (encB n)) rfl (by decide) rfl rfl rfl rfl (by decide) (by k_asm) (by k_asm) hmz hdz hsub hZ8 fun D1 h1 tk1 ys1 F1 N1 lt1 hI1 => ?_
  clear F N
  dsimp only
  k_steps
  have z := (N1 (wh, listOf ws.toArray c) (.tail _ hmw)).1
  refine kso_sorted F1 N1 ⟨_, z, rfl, _, rfl⟩ hI (by have := hp.length_eq; omega) fun D2 ls Lo c1 h2 F2 N2 lt2 hLo hl2 hp2 hs2 _ => ?_
  clear z F1 N1
  refine eq_ints N2 (.tail _ (.head _)) hI1 (.head _) hLo (by exact Nat.le_of_ble_eq_true rfl) (sorted_le_one (hp.trans hp2.symm) hs hs2) ?_
  exact hQ h2 _ F2 fun q hq => N2 q (.tail _ (.tail _ hq))
end Mine

end
local macro_rules | `(tactic| walk_at "zz") => `(tactic| fail)
local macro_rules | `(tactic| walk_at "zz") => `(tactic| fail)
local macro_rules | `(tactic| walk_at "zz") => `(tactic| fail)
section
open PySem PySem.W PyProof.Rows PySem.Calls
namespace Mine
section
open Builtin.Bytes (order)
noncomputable def beV : List UInt8 → Nat
  | [] => 0
  | x :: r => x.toNat * 256 ^ r.length + beV r
theorem beV_lt : ∀ l : List UInt8, beV l < 256 ^ l.length
  | [] => by simp [beV]
  | x :: r => by
    have h := beV_lt r
    have hx : x.toNat < 256 := x.toNat_lt
    show x.toNat * 256 ^ r.length + beV r < 256 ^ (r.length + 1)
    rw [Nat.pow_succ]
    have : x.toNat * 256 ^ r.length ≤ 255 * 256 ^ r.length := Nat.mul_le_mul_right _ (by omega)
    omega
theorem beV_cmp {p a b c d : Nat} (hc : c < p) (hd : d < p) : (a < b → a * p + c < b * p + d) := fun h => by
  have : (a + 1) * p ≤ b * p := Nat.mul_le_mul_right _ h
  rw [Nat.succ_mul] at this
  omega
theorem order_lt : ∀ {a b : List UInt8}, a.length = b.length → ((order a b == .lt) = decide (beV a < beV b)) ∧ (beV a = beV b → a = b)
  | [], [], _ => ⟨by simp [order, beV], fun _ => rfl⟩
  | [], _ :: _, h => by cases h
  | _ :: _, [], h => by cases h
  | x :: r, y :: q, h => by
    have hl : r.length = q.length := by simpa using h
    obtain ⟨i1, i2⟩ := order_lt hl
    have h1 := beV_lt r
    have h2 := beV_lt q
    unfold order beV
    rw [hl] at h1 ⊢
    have e1 := @beV_cmp (256 ^ q.length) x.toNat y.toNat (beV r) (beV q) h1 h2
    have e2 := @beV_cmp (256 ^ q.length) y.toNat x.toNat (beV q) (beV r) h2 h1
    by_cases c1 : x < y
    · have c1' : x.toNat < y.toNat := UInt8.lt_iff_toNat_lt.mp c1
      have := e1 c1'
      rw [if_pos c1, decide_eq_true this]
      exact ⟨rfl, fun e => by omega⟩
    · rw [if_neg c1]
      by_cases c2 : x > y
      · have c2' : y.toNat < x.toNat := UInt8.lt_iff_toNat_lt.mp c2
        have := e2 c2'
        rw [if_pos c2, decide_eq_false (by omega)]
        exact ⟨rfl, fun e => by omega⟩
      · rw [if_neg c2]
        have c1' : ¬ x.toNat < y.toNat := fun k => c1 (UInt8.lt_iff_toNat_lt.mpr k)
        have c2' : ¬ y.toNat < x.toNat := fun k => c2 (UInt8.lt_iff_toNat_lt.mpr k)
        have e : x.toNat = y.toNat := by omega
        have e' : x = y := UInt8.toNat_inj.mp e
        subst e'
        refine ⟨?_, fun k => ?_⟩
        · rw [i1]
          exact decide_eq_decide.mpr (by omega)
        · rw [i2 (by omega)]
theorem beL_succ (s n : Nat) : beL (s + 1) n = (n / 256 ^ s % 256).toUInt8 :: beL s n := by
  unfold beL
  rw [List.range_succ, List.reverse_append]
  rfl
theorem beV_beL (n : Nat) : ∀ s, beV (beL s n) = n % 256 ^ s
  | 0 => by simp [beL, beV, Nat.mod_one]
  | s + 1 => by
    rw [beL_succ]
    show (n / 256 ^ s % 256).toUInt8.toNat * 256 ^ (beL s n).length + beV (beL s n) = _
    rw [beV_beL n s, beL_length, Nat.mod_pow_succ]
    have : (n / 256 ^ s % 256).toUInt8.toNat = n / 256 ^ s % 256 := by
      simp
    rw [this, Nat.mul_comm, Nat.add_comm]
/-- Two octet strings of the shape «first octet, number in s octets» stand as the ranks do. -/
theorem lexOk {lx ly : List UInt8} {x y rx ry : Int} {a b s s' u u' : Nat} (hx : lx = a.toUInt8 :: beL s u) (hy : ly = b.toUInt8 :: beL s' u') (ha : a < 256) (hb : b < 256) (hu : u < 256 ^ s) (hu' : u' < 256 ^ s')
    (h : (a < b ∧ rx < ry) ∨ (b < a ∧ ry < rx) ∨ (a = b ∧ s = s' ∧ (u < u' ↔ rx < ry) ∧ (x < y ↔ rx < ry))) :
    (if lx = ly then decide (x < y) else bl lx ly) = decide (rx < ry) := by
  subst hx hy
  have ta : a.toUInt8.toNat = a := by simp [Nat.mod_eq_of_lt ha]
  have tb : b.toUInt8.toNat = b := by simp [Nat.mod_eq_of_lt hb]
  have na : ∀ {i j : Nat}, i.toUInt8.toNat = i → j.toUInt8.toNat = j → i < j → i.toUInt8 < j.toUInt8 := fun e f k => UInt8.lt_iff_toNat_lt.mpr (by rw [e, f]; exact k)
  rcases h with ⟨h1, h2⟩ | ⟨h1, h2⟩ | ⟨h1, h2, h3, h4⟩
  · have c := na ta tb h1
    rw [if_neg (fun e => by injection e with e _; rw [e] at c; exact absurd c (UInt8.lt_irrefl _)), decide_eq_true h2]
    unfold bl order
    rw [if_pos c]
    rfl
  · have c := na tb ta h1
    rw [if_neg (fun e => by injection e with e _; rw [e] at c; exact absurd c (UInt8.lt_irrefl _)), decide_eq_false (by omega)]
    unfold bl order
    rw [if_neg (fun k => absurd c (UInt8.lt_asymm k)), if_pos c]
    rfl
  · subst h1 h2
    split
    · exact decide_eq_decide.mpr h4
    · obtain ⟨o1, _⟩ := @order_lt (beL s u) (beL s u') (by rw [beL_length, beL_length])
      unfold bl order
      rw [if_neg (UInt8.lt_irrefl _), if_neg (UInt8.lt_irrefl _), o1, beV_beL, beV_beL, Nat.mod_eq_of_lt hu, Nat.mod_eq_of_lt hu']
      exact decide_eq_decide.mpr h3
end
end Mine

end
local macro_rules | `(tactic| walk_at "zz") => `(tactic| fail)
section
open PySem PySem.W PyProof.Rows PySem.Calls
namespace Mine
/-- The shape of what pack writes for v. -/
def PK (v : Int) (a s u : Nat) : Prop := packL v = a.toUInt8 :: beL s u ∧ a < 256 ∧ u < 256 ^ s
theorem beL_one (n : Nat) : beL 1 n = [(n % 256).toUInt8] := by
  show [(n / 256 ^ 0 % 256).toUInt8] = _
  simp
theorem pk_cases (v : Int) (h : inR v) :
    (0 ≤ v ∧ v < 128 ∧ prank v = v ∧ PK v v.toNat 0 0) ∨
    (-32 ≤ v ∧ v < 0 ∧ prank v = 5902958103587056517120 + v ∧ PK v (v + 256).toNat 0 0) ∨
    (128 ≤ v ∧ v < 256 ∧ prank v = v ∧ PK v 204 1 v.toNat) ∨
    (-128 ≤ v ∧ v < -32 ∧ prank v = 1180591620717411303424 + v ∧ PK v 208 1 (v + 256).toNat) ∨
    (256 ≤ v ∧ v < 65536 ∧ prank v = v ∧ PK v 205 2 v.toNat) ∨
    (-32768 ≤ v ∧ v < -128 ∧ prank v = 2361183241434822606848 + v ∧ PK v 209 2 (v + 65536).toNat) ∨
    (65536 ≤ v ∧ v < 4294967296 ∧ prank v = v ∧ PK v 206 4 v.toNat) ∨
    (-2147483648 ≤ v ∧ v < -32768 ∧ prank v = 3541774862152233910272 + v ∧ PK v 210 4 (v + 4294967296).toNat) ∨
    (4294967296 ≤ v ∧ v ≤ 18446744073709551615 ∧ prank v = v ∧ PK v 207 8 v.toNat) ∨
    (-9223372036854775808 ≤ v ∧ v < -2147483648 ∧ prank v = 4722366482869645213696 + v ∧ PK v 211 8 (v + 18446744073709551616).toNat) := by
  obtain ⟨h0, h1⟩ := h
  have e1 : (2 : Int) ^ (8 * 1) = 256 := by decide
  have e2 : (2 : Int) ^ (8 * 2) = 65536 := by decide
  have e4 : (2 : Int) ^ (8 * 4) = 4294967296 := by decide
  have e8 : (2 : Int) ^ (8 * 8) = 18446744073709551616 := by decide
  have g0 : (256 : Nat) ^ 0 = 1 := by decide
  have g1 : (256 : Nat) ^ 1 = 256 := by decide
  have g2 : (256 : Nat) ^ 2 = 65536 := by decide
  have g4 : (256 : Nat) ^ 4 = 4294967296 := by decide
  have g8 : (256 : Nat) ^ 8 = 18446744073709551616 := by decide
  have z : beL 0 0 = [] := rfl
  unfold PK
  rw [z, g0, g1, g2, g4, g8]
  unfold packL
  rw [e1, e2, e4, e8]
  by_cases c1 : 0 ≤ v ∧ v < 128
  · refine .inl ⟨c1.1, c1.2, by unfold prank placeN; rw [if_pos c1.1]; omega, ?_, by omega, by omega⟩
    rw [if_pos c1, beL_one]
    have : (v % 256).toNat % 256 = v.toNat := by omega
    rw [this]
  rw [if_neg c1]
  by_cases c2 : -32 ≤ v ∧ v < 0
  · refine .inr (.inl ⟨c2.1, c2.2, by unfold prank placeN; rw [if_neg (by omega), if_pos c2.1]; omega, ?_, by omega, by omega⟩)
    rw [if_pos c2, beL_one]
    have : (v % 256).toNat % 256 = (v + 256).toNat := by omega
    rw [this]
  rw [if_neg c2]
  by_cases c3 : 128 ≤ v ∧ v ≤ 255
  · refine .inr (.inr (.inl ⟨c3.1, by omega, by unfold prank placeN; rw [if_pos (by omega)]; omega, ?_, by omega, by omega⟩))
    rw [if_pos c3]
    have : (v % 256).toNat = v.toNat := by omega
    rw [this]; rfl
  rw [if_neg c3]
  by_cases c4 : -128 ≤ v ∧ v < 0
  · refine .inr (.inr (.inr (.inl ⟨c4.1, by omega, by unfold prank placeN; rw [if_neg (by omega), if_neg (by omega), if_pos c4.1]; omega, ?_, by omega, by omega⟩)))
    rw [if_pos c4]
    have : (v % 256).toNat = (v + 256).toNat := by omega
    rw [this]; rfl
  rw [if_neg c4]
  by_cases c5 : 255 < v ∧ v ≤ 65535
  · refine .inr (.inr (.inr (.inr (.inl ⟨by omega, by omega, by unfold prank placeN; rw [if_pos (by omega)]; omega, ?_, by omega, by omega⟩))))
    rw [if_pos c5]
    have : (v % 65536).toNat = v.toNat := by omega
    rw [this]; rfl
  rw [if_neg c5]
  by_cases c6 : -32768 ≤ v ∧ v < -128
  · refine .inr (.inr (.inr (.inr (.inr (.inl ⟨c6.1, by omega, by unfold prank placeN; rw [if_neg (by omega), if_neg (by omega), if_neg (by omega), if_pos c6.1]; omega, ?_, by omega, by omega⟩)))))
    rw [if_pos c6]
    have : (v % 65536).toNat = (v + 65536).toNat := by omega
    rw [this]; rfl
  rw [if_neg c6]
  by_cases c7 : 65535 < v ∧ v ≤ 4294967295
  · refine .inr (.inr (.inr (.inr (.inr (.inr (.inl ⟨by omega, by omega, by unfold prank placeN; rw [if_pos (by omega)]; omega, ?_, by omega, by omega⟩))))))
    rw [if_pos c7]
    have : (v % 4294967296).toNat = v.toNat := by omega
    rw [this]; rfl
  rw [if_neg c7]
  by_cases c8 : -2147483648 ≤ v ∧ v < -32768
  · refine .inr (.inr (.inr (.inr (.inr (.inr (.inr (.inl ⟨c8.1, by omega, by unfold prank placeN; rw [if_neg (by omega), if_neg (by omega), if_neg (by omega), if_neg (by omega), if_pos c8.1]; omega, ?_, by omega, by omega⟩)))))))
    rw [if_pos c8]
    have : (v % 4294967296).toNat = (v + 4294967296).toNat := by omega
    rw [this]; rfl
  rw [if_neg c8]
  by_cases c9 : 4294967295 < v
  · refine .inr (.inr (.inr (.inr (.inr (.inr (.inr (.inr (.inl ⟨by omega, by omega, by unfold prank placeN; rw [if_pos (by omega)]; omega, ?_, by omega, by omega⟩))))))))
    rw [if_pos (by omega)]
    have : (v % 18446744073709551616).toNat = v.toNat := by omega
    rw [this]; rfl
  · refine .inr (.inr (.inr (.inr (.inr (.inr (.inr (.inr (.inr ⟨by omega, by omega, by unfold prank placeN; rw [if_neg (by omega), if_neg (by omega), if_neg (by omega), if_neg (by omega), if_neg (by omega)]; omega, ?_, by omega, by omega⟩))))))))
    rw [if_neg (by omega)]
    have : (v % 18446744073709551616).toNat = (v + 18446744073709551616).toNat := by omega
    rw [this]; rfl
theorem pack_ok {ns : List Int} (h : ∀ n ∈ ns, inR n) : PackOk ns := fun x hx y hy => by
  have cx := pk_cases x (h x hx)
  have cy := pk_cases y (h y hy)
  rcases cx with ⟨x1, x2, x3, x4, x5, x6⟩ | ⟨x1, x2, x3, x4, x5, x6⟩ | ⟨x1, x2, x3, x4, x5, x6⟩ | ⟨x1, x2, x3, x4, x5, x6⟩ | ⟨x1, x2, x3, x4, x5, x6⟩ | ⟨x1, x2, x3, x4, x5, x6⟩ | ⟨x1, x2, x3, x4, x5, x6⟩ | ⟨x1, x2, x3, x4, x5, x6⟩ | ⟨x1, x2, x3, x4, x5, x6⟩ | ⟨x1, x2, x3, x4, x5, x6⟩ <;>
    rcases cy with ⟨y1, y2, y3, y4, y5, y6⟩ | ⟨y1, y2, y3, y4, y5, y6⟩ | ⟨y1, y2, y3, y4, y5, y6⟩ | ⟨y1, y2, y3, y4, y5, y6⟩ | ⟨y1, y2, y3, y4, y5, y6⟩ | ⟨y1, y2, y3, y4, y5, y6⟩ | ⟨y1, y2, y3, y4, y5, y6⟩ | ⟨y1, y2, y3, y4, y5, y6⟩ | ⟨y1, y2, y3, y4, y5, y6⟩ | ⟨y1, y2, y3, y4, y5, y6⟩ <;>
    exact lexOk x4 y4 x5 y5 x6 y6 (by rw [x3, y3]; clear x4 y4 x5 y5 x6 y6 x3 y3 h; omega)
theorem prank_inj {x y : Int} (hx : inR x) (hy : inR y) (h : prank x = prank y) : x = y := by
  obtain ⟨x1, x2⟩ := hx
  obtain ⟨y1, y2⟩ := hy
  unfold prank at h
  generalize placeN x = a at h
  generalize placeN y = b at h
  omega
theorem place_ok {ns : List Int} (h : ∀ n ∈ ns, inR n) : PlaceOk ns := fun x hx y hy => by
  obtain ⟨x1, x2⟩ := h x hx
  obtain ⟨y1, y2⟩ := h y hy
  unfold prank
  generalize placeN x = a
  generalize placeN y = b
  split <;> exact decide_eq_decide.mpr (by omega)
end Mine

end
local macro_rules | `(tactic| walk_at "zz") => `(tactic| fail)
section
open PySem PySem.W PyProof.Rows PySem.Calls
namespace Mine
def RK (n : Int) (a s u : Nat) : Prop := rawL (serL n) = a.toUInt8 :: beL s u ∧ a < 256 ∧ u < 256 ^ s
theorem byteLen_mono {x y : Int} (hx : 0 ≤ x) (h : x ≤ y) : byteLen x ≤ byteLen y := byteLen_le hx (Int.lt_of_le_of_lt h (byteLen_lt (by omega)))
theorem toNat_lt_pow {n : Int} {k : Nat} (h0 : 0 ≤ n) (h : n < 256 ^ k) : n.toNat < 256 ^ k := by
  have : ((256 ^ k : Nat) : Int) = 256 ^ k := by simp
  omega
theorem raw_size {l : List UInt8} {a s u : Nat} (h : l = a.toUInt8 :: beL s u) : l.length = s + 1 := by
  rw [h, List.length_cons, beL_length]
theorem rk_cases {n : Int} (h0 : 0 ≤ n) (h1 : n < 18446744073709551616) :
    (n = 0 ∧ erank n = 128 ∧ RK n 128 0 0) ∨ (1 ≤ n ∧ n < 128 ∧ erank n = n ∧ RK n n.toNat 0 0) ∨
    (128 ≤ n ∧ erank n = n + 129 ∧ 1 ≤ byteLen n ∧ byteLen n ≤ 8 ∧ RK n (128 + byteLen n) (byteLen n) n.toNat) := by
  by_cases c0 : n = 0
  · subst c0
    exact .inl ⟨rfl, rfl, by refine ⟨?_, by decide, by decide⟩; unfold serL; rw [if_pos rfl]; rfl⟩
  have hl := byteLen_lt h0
  have hb1 : 1 ≤ byteLen n := by
    rcases Nat.eq_zero_or_pos (byteLen n) with e | e
    · rw [e] at hl
      have : (256 : Int) ^ 0 = 1 := by decide
      omega
    · exact e
  have e8 : (256 : Int) ^ 8 = 18446744073709551616 := by decide
  have hb8 : byteLen n ≤ 8 := byteLen_le h0 (e8 ▸ h1)
  have es : serL n = beL (byteLen n) n.toNat := by unfold serL; rw [if_neg c0]
  have hu := toNat_lt_pow h0 hl
  by_cases c1 : n < 128
  · refine .inr (.inl ⟨by omega, c1, by unfold erank; rw [if_neg c0, if_pos c1], ?_, by omega, by decide⟩)
    have e : byteLen n = 1 := by
      have : byteLen n ≤ 1 := byteLen_le h0 (by have : (256 : Int) ^ 1 = 256 := by decide
                                                omega)
      omega
    rw [es, e, beL_one]
    have z : n.toNat % 256 = n.toNat := by omega
    rw [z]
    unfold rawL
    dsimp only
    have : n.toNat.toUInt8.toNat = n.toNat := by simp; omega
    rw [this, if_pos (by omega)]
    rfl
  · refine .inr (.inr ⟨by omega, by unfold erank; rw [if_neg c0, if_neg c1], hb1, hb8, ?_, by omega, hu⟩)
    rw [es]
    have hlen := beL_length (byteLen n) n.toNat
    by_cases e : byteLen n = 1
    · rw [e, beL_one]
      have h256 : n.toNat < 256 := by
        rw [e] at hu
        have : (256 : Nat) ^ 1 = 256 := by decide
        omega
      unfold rawL
      dsimp only
      have z : n.toNat % 256 = n.toNat := by omega
      rw [z]
      have : n.toNat.toUInt8.toNat = n.toNat := by simp; omega
      rw [this, if_neg (by omega)]
      rfl
    · generalize hg : beL (byteLen n) n.toNat = b at hlen
      match b, hlen with
      | [], hlen => simp at hlen; omega
      | [c], hlen => simp at hlen; omega
      | c :: d :: r, hlen =>
        show (128 + (c :: d :: r).length).toUInt8 :: c :: d :: r = _
        rw [hlen]
theorem enc_lex {x y : Int} (hx0 : 0 ≤ x) (hx1 : x < 18446744073709551616) (hy0 : 0 ≤ y) (hy1 : y < 18446744073709551616) :
    (if rawL (serL x) = rawL (serL y) then decide (x < y) else bl (rawL (serL x)) (rawL (serL y))) = decide (erank x < erank y) := by
  rcases rk_cases hx0 hx1 with ⟨x1, x2, x4, x5, x6⟩ | ⟨x1, x2, x3, x4, x5, x6⟩ | ⟨x1, x2, x3, x7, x4, x5, x6⟩ <;>
    rcases rk_cases hy0 hy1 with ⟨y1, y2, y4, y5, y6⟩ | ⟨y1, y2, y3, y4, y5, y6⟩ | ⟨y1, y2, y3, y7, y4, y5, y6⟩
  all_goals refine lexOk x4 y4 x5 y5 x6 y6 ?_
  case inr.inr.inr.inr =>
    have m1 : ¬ byteLen y ≤ byteLen x → ¬ y ≤ x := fun k q => k (byteLen_mono hy0 q)
    have m2 : ¬ byteLen x ≤ byteLen y → ¬ x ≤ y := fun k q => k (byteLen_mono hx0 q)
    rw [x2, y2]
    clear x4 y4 x5 y5 x6 y6
    omega
  all_goals
    clear x4 y4 x5 y5 x6 y6
    omega
theorem enc_ok {ns : List Int} (h : ∀ n ∈ ns, 0 ≤ n ∧ n < 18446744073709551616) : EncOk ns := fun x hx y hy =>
  enc_lex (h x hx).1 (h x hx).2 (h y hy).1 (h y hy).2
theorem sz_cases {n : Int} (h0 : 0 ≤ n) (h1 : n < 18446744073709551616) :
    (n = 0 ∧ szN n = 0) ∨ (1 ≤ n ∧ n < 128 ∧ szN n = 1) ∨ (128 ≤ n ∧ szN n = byteLen n + 1 ∧ 1 ≤ byteLen n) := by
  have hs : (encB n).size = (rawL (serL n)).length := by simp
  rcases rk_cases h0 h1 with ⟨x1, x2, x4, x5, x6⟩ | ⟨x1, x2, x3, x4, x5, x6⟩ | ⟨x1, x2, x3, x7, x4, x5, x6⟩
  · exact .inl ⟨x1, by unfold szN; rw [if_pos x1]⟩
  · exact .inr (.inl ⟨x1, x2, by unfold szN; rw [if_neg (by omega), hs, raw_size x4]; rfl⟩)
  · exact .inr (.inr ⟨x1, by unfold szN; rw [if_neg (by omega), hs, raw_size x4]; omega, x3⟩)
theorem sized_ok {ns : List Int} (h : ∀ n ∈ ns, 0 ≤ n ∧ n < 18446744073709551616) : SizedOk ns := fun x hx y hy => by
  obtain ⟨hx0, hx1⟩ := h x hx
  obtain ⟨hy0, hy1⟩ := h y hy
  have m1 : ¬ byteLen y ≤ byteLen x → ¬ y ≤ x := fun k q => k (byteLen_mono hy0 q)
  have m2 : ¬ byteLen x ≤ byteLen y → ¬ x ≤ y := fun k q => k (byteLen_mono hx0 q)
  have sx := sz_cases hx0 hx1
  have sy := sz_cases hy0 hy1
  split
  next e =>
    rw [enc_lex hx0 hx1 hy0 hy1]
    have ex := rk_cases hx0 hx1
    have ey := rk_cases hy0 hy1
    refine decide_eq_decide.mpr ?_
    rcases ex with ⟨x1, x2, _⟩ | ⟨x1, x2, x3, _⟩ | ⟨x1, x2, x3, _⟩ <;> rcases ey with ⟨y1, y2, _⟩ | ⟨y1, y2, y3, _⟩ | ⟨y1, y2, y3, _⟩ <;> omega
  next e =>
    refine decide_eq_decide.mpr ?_
    omega
theorem erank_inj {x y : Int} (hx : 0 ≤ x) (hy : 0 ≤ y) (h : erank x = erank y) : x = y := by
  unfold erank at h
  (repeat' split at h) <;> omega
end Mine

end
local macro_rules | `(tactic| walk_at "zz") => `(tactic| fail)
section
open PySem PySem.W PyProof.Rows PySem.Calls
namespace Mine
/-- A list sorted by a key is one. -/
theorem sorted_mem_one {key : Int → Int} : ∀ {a b : List Int}, (∀ x, x ∈ a ↔ x ∈ b) → (a.map key).Pairwise (· < ·) → (b.map key).Pairwise (· < ·) → a = b
  | [], [], _, _, _ => rfl
  | [], y :: b, h, _, _ => absurd ((h y).mpr (List.mem_cons_self ..)) (by simp)
  | x :: a, [], h, _, _ => absurd ((h x).mp (List.mem_cons_self ..)) (by simp)
  | x :: a, y :: b, h, ha, hb => by
    rw [List.map_cons, List.pairwise_cons] at ha hb
    have e : x = y := by
      rcases List.mem_cons.mp ((h x).mp (List.mem_cons_self ..)) with q | q
      · exact q
      · rcases List.mem_cons.mp ((h y).mpr (List.mem_cons_self ..)) with r | r
        · exact r.symm
        · have k1 := hb.1 (key x) (List.mem_map_of_mem q)
          have k2 := ha.1 (key y) (List.mem_map_of_mem r)
          omega
    subst e
    have na : x ∉ a := fun q => absurd (ha.1 (key x) (List.mem_map_of_mem q)) (Int.lt_irrefl _)
    have nb : x ∉ b := fun q => absurd (hb.1 (key x) (List.mem_map_of_mem q)) (Int.lt_irrefl _)
    rw [sorted_mem_one (fun z => ?_) ha.2 hb.2]
    have := h z
    simp only [List.mem_cons] at this
    constructor
    · intro q
      rcases this.mp (.inr q) with r | r
      · rw [r] at q; exact absurd q na
      · exact r
    · intro q
      rcases this.mpr (.inr q) with r | r
      · rw [r] at q; exact absurd q nb
      · exact r
theorem map_nodup {key : Int → Int} {xs : List Int} (h : xs.Nodup) (hi : ∀ x ∈ xs, ∀ y ∈ xs, key x = key y → x = y) : (xs.map key).Nodup := by
  unfold List.Nodup at h ⊢
  rw [List.pairwise_map]
  exact h.imp_of_mem fun {a b} ha hb hne q => hne (hi a ha b hb q)
theorem ddup_go_nodup (xs : List Int) : ∀ acc : List Int, acc.Nodup → (xs.foldl (fun acc x => if (acc.any (· == x)) = true then acc else acc ++ [x]) acc).Nodup := by
  induction xs with
  | nil => exact fun _ h => h
  | cons x r ih =>
    intro acc h
    refine ih _ ?_
    dsimp only
    split
    · exact h
    · rename_i hx
      rw [List.nodup_append]
      refine ⟨h, by simp, fun a ha b hb => ?_⟩
      rw [List.mem_singleton] at hb
      subst hb
      intro q
      subst q
      exact hx (List.any_eq_true.mpr ⟨a, ha, by simp⟩)
theorem ddup_nodup (xs : List Int) : (ddup xs).Nodup := ddup_go_nodup xs [] List.nodup_nil
theorem ddup_go_mem (xs : List Int) : ∀ acc : List Int, ∀ y ∈ xs.foldl (fun acc x => if (acc.any (· == x)) = true then acc else acc ++ [x]) acc, y ∈ acc ∨ y ∈ xs := by
  induction xs with
  | nil => exact fun _ _ h => .inl h
  | cons x r ih =>
    intro acc y h
    rcases ih _ y h with q | q
    · revert q
      dsimp only
      split
      · exact fun q => .inl q
      · intro q
        rcases List.mem_append.mp q with q | q
        · exact .inl q
        · exact .inr (List.mem_cons.mpr (.inl (List.mem_singleton.mp q)))
    · exact .inr (.tail _ q)
theorem ddup_inR {ms : List Int} : ∀ n ∈ ddup (ms.map lawNum), inR n := fun n hn => by
  rcases ddup_go_mem _ [] n hn with q | q
  · cases q
  · obtain ⟨m, _, rfl⟩ := List.mem_map.mp q
    have := lawNum_range m
    unfold inR
    omega
theorem pack_nodup {ns : List Int} (h : ns.Nodup) (hr : ∀ n ∈ ns, inR n) : (ns.map prank).Nodup := map_nodup h fun x hx y hy e => prank_inj (hr x hx) (hr y hy) e
theorem enc_nodup {ns : List Int} (h : ns.Nodup) (hr : ∀ n ∈ ns, 0 ≤ n ∧ n < 18446744073709551616) : (ns.map erank).Nodup := map_nodup h fun x hx y hy e => erank_inj (hr x hx).1 (hr y hy).1 e
/-- written = low + [0] + high. -/
theorem split_w {ns W Lo Hi : List Int} (hn : ns.Nodup) (h0 : ∀ n ∈ ns, 0 ≤ n ∧ n < 18446744073709551616) (hp : W.Perm ns) (hs : (W.map erank).Pairwise (· < ·)) (hl : Lo.Perm (ns.filter fun n => decide (0 < n) && decide (n < 128))) (sl : Lo.Pairwise (· ≤ ·))
    (hh : Hi.Perm (ns.filter fun n => decide (127 < n))) (sh : Hi.Pairwise (· ≤ ·)) : W = Lo ++ (ns.filter fun n => n == 0) ++ Hi := by
  have ml : ∀ x, x ∈ Lo ↔ x ∈ ns ∧ 0 < x ∧ x < 128 := fun x => by rw [hl.mem_iff]; simp [List.mem_filter]
  have mh : ∀ x, x ∈ Hi ↔ x ∈ ns ∧ 127 < x := fun x => by rw [hh.mem_iff]; simp [List.mem_filter]
  have mz : ∀ x, x ∈ (ns.filter fun n => n == 0) ↔ x ∈ ns ∧ x = 0 := fun x => by simp [List.mem_filter]
  have nl : Lo.Nodup := hl.nodup_iff.mpr (hn.filter _)
  have nh : Hi.Nodup := hh.nodup_iff.mpr (hn.filter _)
  have nz : (ns.filter fun n => n == 0).Nodup := hn.filter _
  refine sorted_mem_one (key := erank) (fun x => ?_) hs ?_
  · rw [hp.mem_iff, List.mem_append, List.mem_append, ml, mh, mz]
    constructor
    · intro q
      have := (h0 x q).1
      by_cases c : x = 0
      · exact .inl (.inr ⟨q, c⟩)
      · by_cases c2 : x < 128
        · exact .inl (.inl ⟨q, by omega, c2⟩)
        · exact .inr ⟨q, by omega⟩
    · rintro ((q | q) | q) <;> exact q.1
  · rw [List.pairwise_map, List.pairwise_append, List.pairwise_append]
    have k1 : ∀ x, 0 < x → x < 128 → erank x = x := fun x a b => by unfold erank; rw [if_neg (by omega), if_pos b]
    have k2 : ∀ x, 127 < x → erank x = x + 129 := fun x a => by unfold erank; rw [if_neg (by omega), if_neg (by omega)]
    have k0 : erank 0 = 128 := rfl
    refine ⟨⟨?_, ?_, fun a ha b hb => ?_⟩, ?_, fun a ha b hb => ?_⟩
    · refine (List.pairwise_and_iff.mpr ⟨sl, nl⟩).imp_of_mem fun {a b} ha hb q => ?_
      have a1 := (ml a).mp ha
      have b1 := (ml b).mp hb
      have q1 : a ≤ b := q.1
      have q2 : a ≠ b := q.2
      rw [k1 a a1.2.1 a1.2.2, k1 b b1.2.1 b1.2.2]
      omega
    · refine nz.imp_of_mem fun {a b} ha hb q => ?_
      exact absurd ((((mz a).mp ha).2).trans ((mz b).mp hb).2.symm) q
    · have a1 := (ml a).mp ha
      rw [((mz b).mp hb).2, k1 a a1.2.1 a1.2.2, k0]
      omega
    · refine (List.pairwise_and_iff.mpr ⟨sh, nh⟩).imp_of_mem fun {a b} ha hb q => ?_
      have a1 := (mh a).mp ha
      have b1 := (mh b).mp hb
      have q1 : a ≤ b := q.1
      have q2 : a ≠ b := q.2
      rw [k2 a a1.2, k2 b b1.2]
      omega
    · have b1 := (mh b).mp hb
      rw [k2 b b1.2]
      rcases List.mem_append.mp ha with ha | ha
      · have a1 := (ml a).mp ha
        rw [k1 a a1.2.1 a1.2.2]
        omega
      · rw [((mz a).mp ha).2, k0]
        omega
/-- the positive ones stand alike in both. -/
theorem pos_same {ns P W : List Int} (hp : P.Perm ns) (hs : (P.map prank).Pairwise (· < ·)) (hw : W.Perm (ns.filter fun n => decide (0 ≤ n))) (ws : (W.map erank).Pairwise (· < ·)) :
    P.filter (fun n => decide (0 < n)) = W.filter (fun n => decide (0 < n)) := by
  refine sorted_mem_one (key := fun n => n) (fun x => ?_) ?_ ?_
  · rw [List.mem_filter, List.mem_filter, hp.mem_iff, hw.mem_iff, List.mem_filter]
    simp only [decide_eq_true_eq]
    constructor
    · rintro ⟨a, b⟩; exact ⟨⟨a, by omega⟩, b⟩
    · rintro ⟨a, b⟩; exact ⟨a.1, b⟩
  · rw [List.map_id']
    rw [List.pairwise_map] at hs
    refine (hs.filter _).imp_of_mem fun {a b} ha hb q => ?_
    have a1 := of_decide_eq_true (List.mem_filter.mp ha).2
    have b1 := of_decide_eq_true (List.mem_filter.mp hb).2
    unfold prank placeN at q
    rw [if_pos (by omega), if_pos (by omega)] at q
    omega
  · rw [List.map_id']
    rw [List.pairwise_map] at ws
    refine (ws.filter _).imp_of_mem fun {a b} ha hb q => ?_
    have a1 := of_decide_eq_true (List.mem_filter.mp ha).2
    have b1 := of_decide_eq_true (List.mem_filter.mp hb).2
    unfold erank at q
    (repeat' split at q) <;> omega
end Mine

end
local macro_rules | `(tactic| walk_at "zz") => `(tactic| fail)
section
open PySem PySem.W PyProof.Rows PySem.Calls PyProof.Rows.LCg
namespace Mine
theorem law_eleven : lawBody = [lawBody.getD 0 (.Pass ⟨0, 0, 0, 0⟩), lawBody.getD 1 (.Pass ⟨0, 0, 0, 0⟩), lawBody.getD 2 (.Pass ⟨0, 0, 0, 0⟩), lawBody.getD 3 (.Pass ⟨0, 0, 0, 0⟩), lawBody.getD 4 (.Pass ⟨0, 0, 0, 0⟩), lawBody.getD 5 (.Pass ⟨0, 0, 0, 0⟩),
  lawBody.getD 6 (.Pass ⟨0, 0, 0, 0⟩), lawBody.getD 7 (.Pass ⟨0, 0, 0, 0⟩), lawBody.getD 8 (.Pass ⟨0, 0, 0, 0⟩), lawBody.getD 9 (.Pass ⟨0, 0, 0, 0⟩), lawBody.getD 10 (.Pass ⟨0, 0, 0, 0⟩)] := by kernel_rfl
theorem law_body (w : World) (p : Program) (loose : List Str) (mean : ExcName → Option Value) (mg mb : Str → Option Value) (fa : Addr) (cd : Value) (base h₀ : Heap) (L : Addr) (s : Shared) (Q : Flow → Shared → Prop) (l : Addr) (vs : List Value) (ns : List Int)
    (B : Below callerA base [] h₀) (F : Fr h₀ L s.heap (fun y => List.lookup y [(sn "script", Value.ref l)])) (X : (KF w.params).In h₀) (T : Top p loose mean mg mb h₀) (hL : h₀.IsList l vs.toArray) (hI : IntsAre vs ns) (h63 : ns.length ≤ 63)
    (hQ : ∀ (h' : Heap) (tk : Nat), (∀ b o, h₀.get? b = some o → h'.get? b = some o) → Q (.ret (.bool true)) { s with heap := h', toks := tk }) :
    wpP (model PySem.Challenge.rw_vn0026_01.prog w) (lawA L fa cd) (execs lawBody (lawE L fa cd)) Q NoE s := by
  rw [law_eleven]
  refine P_execs_lift (s1 w p loose mean mg mb fa cd base h₀ L s _ NoE l B F X T fun lv h1 tk1 F1 N1 => ?_)
  dsimp only
  refine P_execs_lift (s2 w p loose mean mg mb fa cd base h₀ L _ _ NoE l lv vs ns B F1 X N1 T hL hI h63 fun h2 tk2 num vs2 c2 ms F2 N2 h8 I2 => ?_)
  dsimp only
  have hnd := ddup_nodup (ms.map lawNum)
  have hr := ddup_inR (ms := ms)
  have hl : (ddup (ms.map lawNum)).length ≤ 8 := Nat.le_trans (ddup_len _) (by rw [List.length_map]; exact h8)
  generalize hx : ddup (ms.map lawNum) = xs at hnd hr hl I2
  clear hx
  refine P_execs_cons (s3_P w p loose mean mg mb fa cd base h₀ L _ _ l lv vs2 xs c2 num B F2 X N2 T I2 hl hr (pack_nodup hnd hr) (pack_ok hr) fun pk c3 h3 tk3 ps P tups F3 N3 lt3 hdP hpP hsP => ?_)
  dsimp only
  refine P_execs_lift (s4 w p loose mean mg mb fa cd base h₀ L _ _ NoE l lv pk vs2 ps xs P c2 c3 num tups B F3 X N3 T I2 hl hr hdP hpP hsP (pack_nodup hnd hr) (place_ok hr) fun h4 tk4 F4 N4 => ?_)
  dsimp only
  refine P_execs_lift (s5 w p loose mean mg mb fa cd base h₀ L _ _ NoE l lv pk 0 0 0 0 0 num _ vs2 xs c2 B F4 X N4 T I2 hl (.tail _ (.head _)) fun wh h5 tk5 ws F5 N5 I5 => ?_)
  dsimp only
  have hr0 : ∀ n ∈ (xs.filter fun n => decide (0 ≤ n)), 0 ≤ n ∧ n < 18446744073709551616 := fun n hn => by
    have a := List.mem_filter.mp hn
    have b := of_decide_eq_true a.2
    have c := (hr n a.1).2
    exact ⟨b, by omega⟩
  have hw8 : (xs.filter fun n => decide (0 ≤ n)).length ≤ 8 := Nat.le_trans (List.length_filter_le _ _) hl
  have hwn : (xs.filter fun n => decide (0 ≤ n)).Nodup := hnd.filter _
  refine P_execs_lift (s6 w p loose mean mg mb fa cd base h₀ L _ _ NoE l lv pk wh 0 0 0 0 num _ ws _ B F5 X N5 T I5 hw8 (.head _) hr0 (enc_nodup hwn hr0) (enc_ok hr0) fun wr c6 h6 tk6 rs W nd led6 F6 N6 hs6 hn6 hdW hpW hsW => ?_)
  dsimp only
  have m6 : (wh, lst ws) ∈ (wr, listOf (List.toArray rs) c6) :: led6 := .tail _ (hs6 _ (.head _))
  refine P_execs_lift (s7 w p loose mean mg mb fa cd base h₀ L _ _ NoE l lv pk wh wr 0 0 0 num _ ws _ B F6 X N6 T I5 hw8 m6 fun lo hi c7 c8 h7 tk7 ls hs Lo Hi led7 F7 N7 hs7 mlo mhi ILo IHi pLo sLo pHi sHi => ?_)
  dsimp only
  have hW8 : W.length ≤ 8 := by rw [hpW.length_eq]; exact hw8
  have hP8 : P.length ≤ 8 := by rw [hpP.length_eq]; exact hl
  have mwh := hs7 _ m6
  have mwr := hs7 _ (.head _)
  have hnd7 : ∀ q ∈ nd, q ∈ led7 := fun q hq => hs7 q (.tail _ (hn6 q hq))
  refine P_execs_lift (s8 w p loose mean mg mb fa cd base h₀ L _ _ NoE l lv pk wh wr lo hi 0 num _ ws rs ls hs _ W Lo Hi c6 c7 c8 nd B F7 X N7 T I5 hw8 mwh mwr hdW hnd7 hW8 mlo mhi ILo IHi
    (by rw [pLo.length_eq]; exact Nat.le_trans (List.length_filter_le _ _) hw8) (by rw [pHi.length_eq]; exact Nat.le_trans (List.length_filter_le _ _) hw8) (split_w hwn hr0 hpW hsW pLo sLo pHi sHi) fun h8 tk8 F8 N8 => ?_)
  dsimp only
  have lift : ∀ q ∈ ((pk, listOf (List.toArray ps) c3) :: (lv, listOf vs2.toArray c2) :: tups), q ∈ led7 := fun q hq => hs7 q (.tail _ (hs6 q (.tail _ hq)))
  refine P_execs_lift (s9 w p loose mean mg mb fa cd base h₀ L _ _ NoE l lv pk wh wr lo hi 0 num _ ps rs P W c3 c6 tups nd B F8 X N8 T (lift _ (.head _)) hdP (fun q hq => lift q (.tail _ (.tail _ hq))) hP8 mwr hdW hnd7 hW8 (pos_same hpP hsP hpW hsW) fun h9 tk9 F9 N9 => ?_)
  dsimp only
  refine P_execs_lift (s10 w p loose mean mg mb fa cd base h₀ L _ _ NoE l lv pk wh wr lo hi 0 num _ ws _ B F9 X N9 T I5 hw8 mwh hr0 hwn (sized_ok hr0) fun sz c10 h10 tk10 zs Z ndz led10 F10 N10 hs10 hnz hdZ hpZ hsZ => ?_)
  dsimp only
  refine P_execs_lift (s11 w p loose mean mg mb fa cd base h₀ L _ _ NoE l lv pk wh wr lo hi sz num _ ws zs _ Z _ c10 ndz B F10 X N10 T (.head _) hdZ (fun q hq => .tail _ (hnz q hq)) (by rw [hpZ.length_eq]; exact hw8) (.tail _ (hs10 _ mwh)) I5 hpZ hsZ fun h11 tk11 F11 N11 => ?_)
  exact hQ h11 tk11 F11.keep
end Mine

end
local macro_rules | `(tactic| walk_at "zz") => `(tactic| fail)
section
open PySem PySem.W PyProof.Rows PySem.Calls
namespace Mine
def lawPar : Arguments := match topS 56 with | .FunctionDef _ a _ _ _ _ _ _ _ _ => a | _ => default
theorem law_cells : ∀ x ∈ lawSc.names, x.2 ≠ .cell := by decide +kernel
theorem law_loc : lawSc.names.lookup (sn "script") = some .local := by kernel_rfl
theorem enter_law {p : Program} {loose : List Str} {mean : ExcName → Option Value} {mg mb : Str → Option Value} {w : World} {s : Shared} {fa l : Addr} {o : Obj} {pm cd doc kV : Value} {vs : List Value} {ns : List Int}
    (T : Top p loose mean mg mb s.heap) (X : (KF w.params).In s.heap) (ho : s.heap.get? fa = some o) (hd : o.data = .func { docDef (sn "law") lawPar lawBody lawSc pm cd doc with defaults := .none, kwdefaults := kV })
    (hcd : s.heap.CodeRec cd (sn "law")) (hL : s.heap.IsList l vs.toArray) (hI : IntsAre vs ns) (h63 : ns.length ≤ 63) :
    wpP (model PySem.Challenge.rw_vn0026_01.prog w) callerA (call (.ref fa) [.ref l]) (fun v s' => v = .bool true ∧ (∀ b o, s.heap.get? b = some o → s'.heap.get? b = some o) ∧ s'.os = s.os ∧ s'.gens = s.gens) NoE s := by
  refine P_call ?_
  refine codeP_call_def (fd := { docDef (sn "law") lawPar lawBody lawSc pm cd doc with defaults := .none, kwdefaults := kV }) (body := lawBody) (binds := [(sn "script", .ref l)]) (by decide +kernel) ho hd T.nolimit hcd rfl (BindsTo.of_eq (by rfl)) law_cells (fun y hy => by rw [List.mem_singleton.mp hy]; exact law_loc) (fun h₁ hns hk => ?_) (by rfl) (by rfl) (by rfl)
  exact law_body w p loose mean mg mb fa cd s.heap s.heap s.heap.objs.size { s with heap := h₁, toks := s.toks + 1 } _ l vs ns (below_caller _) ⟨hns, hk, Nat.le_refl _⟩ X T hL hI h63 fun h' tk k => ⟨rfl, k, rfl, rfl⟩
theorem post_true (args : List WData) : PySem.Challenge.rw_vn0026_01.row.claim.post args (.bool true) args = true := by wrow_post
end Mine

end
local macro_rules | `(tactic| walk_at "zz") => `(tactic| fail)
section
open PySem PySem.W PyProof.Rows PySem.Calls
set_option maxHeartbeats 8000000 in
theorem PySem.Challenge.cw_vn0026_01_holds : PySem.Challenge.rw_vn0026_01.Holds := by
  w_on
  o_law
  refine Mine.holds_P (q := Mine.qV) (loose := Mine.looseV) (Xt := Mine.XtV) (XP := XL Mine.qV []) (Yf := Mine.hkV.obs) (Ya := Mine.hkV.val) (YP := Mine.hkV.says) (N := 60000) Mine.leftV (Hook.of Mine.hkV) (Hook.keeps Mine.hkV)
    (fun s e => xl_of s (Bool.and_eq_true_iff.mp e).1) XL.keeps (by rfl) (by rfl) (by rfl) (fun s e => recFacts_of (Bool.and_eq_true_iff.mp e).2) (by rfl) (by assumption) (by decide +kernel) ⟨rfl, rfl, rfl, rfl, rfl, by decide +kernel⟩ ?hw ?hc
  case hw => w_witness2
  case hc =>
    unfold Mine.hkV
    intro w s₀ s₁ mg mb G Y fa o pm cd doc dV kV ho hd hcd hD hmg hg args vals as hpre hlay hrd hwl hlo
    have KX := kIn_of Y
    refine Ground.open G ?_
    intro T B D TE TW
    clear D B TE TW hmg Y G
    wrow_args hpre hlay hrd hwl hlo
    have he := Dflts.none hD rfl
    subst he
    rename IntsAre _ _ => hI
    rename Heap.IsList _ _ _ => hL
    rename ¬ (63 : Int) < _ => h63
    have h63' : _ ≤ 63 := Nat.le_of_not_lt fun k => h63 (Int.ofNat_lt.mpr k)
    have go := Mine.enter_law T KX ho hd hcd hL hI h63'
    refine Mine.P_mono go (fun v s' q => ?_) (fun e s' x => x.elim)
    obtain ⟨e, k, o1, g1⟩ := q
    subst e
    exact ⟨.inl ⟨.bool true, .bool true, [], rfl, fun cls => rfl, .bool true, Mine.post_true _, fun _ => ⟨List.nodup_nil, fun a h => nomatch h⟩⟩, k, o1, g1.trans hg⟩

end
